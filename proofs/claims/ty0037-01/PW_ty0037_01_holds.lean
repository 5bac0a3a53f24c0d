import PyProof.Rows.All
import Wide.All
import OpenK.AllK
import Wide.FinOn
import PyProof.ToksMono
import KE.KSuperObj
import PyProof.MeetsSeq
import PyProof.ListTruth
import PyProof.FactsLen
import PyProof.PureStr
import PyProof.PureInt
import Wide.Once
import PyProof.GenArm
import PyProof.Walk
import PyProof.WalkLemmas
import PyProof.SliceList
import PyProof.GenCompD
import PyProof.StrOps
import PyProof.Draws
import PyProof.JoinWalk
import PyProof.StrCalls3
import PyProof.Rules3
import PyProof.Rows.StrInSeq
import PyProof.TupleKey
import PyProof.EqAt
import PyProof.ListIndexNeg
import PyProof.Rows.StrInSeq3
import PyProof.RangeIter
import PyProof.MakeMany
import PyProof.ZipIter
import PyProof.EnumFor
import PyProof.StrLoop
import PyProof.RaisesMany
import PyProof.RulesTry
import PyProof.ListStr
import PyProof.EnumMake
import PyProof.CallFns
import PyProof.SumWalk
import PyProof.StrReplace2
import PyProof.StrLawsReplace
import PyProof.FitsReplace
import PyProof.Wp
import Lean
import PySem.Challenge.RW_ty0037_01
open PySem PySem.Spec PySem.Calls PyProof.Rows PySem.W PySem.W.X
set_option Elab.async false
set_option maxRecDepth 1000000
set_option maxHeartbeats 0
set_option linter.all false
set_option genInjectivity false
set_option genSizeOf false
noncomputable section
namespace Mine
theorem iL {α:Type} {a:α} {k l:List α} (h:a∈k):a∈k++l:=List.mem_append_left l h
theorem iR {α:Type} {a:α} {k l:List α} (h:a∈l):a∈k++l:=List.mem_append_right k h
theorem iC {α:Type} {a b:α} {l:List α} (h:a∈b::l):a=b\/a∈l:=List.mem_cons.mp h
theorem iA {α:Type} {a:α} {k l:List α} (h:a∈k++l):a∈k\/a∈l:=List.mem_append.mp h
theorem e1 {a b:Nat} (k:Nat.ble a b=true):a<=b:=Nat.le_of_ble_eq_true k
theorem e2 {a b:Nat} (k:Nat.ble (a+1) b=true):a<b:=Nat.le_of_ble_eq_true k
theorem leT {a b c:Nat} (h:a<=b) (k:Nat.ble b c=true):a<=c:=Nat.le_trans h (e1 k)
theorem t2 {a b c:Nat} (h:a<=b) (k:Nat.ble (b+1) c=true):a<c:=Nat.lt_of_le_of_lt h (e2 k)
theorem t3 {a b c:Nat} (h:a<b) (k:Nat.ble b (c+1)=true):a<=c:=Nat.le_of_lt_succ (Nat.lt_of_lt_of_le h (e1 k))
theorem t4 {a b c:Nat} (h:a<b) (k:Nat.ble b c=true):a<c:=Nat.lt_of_lt_of_le h (e1 k)
theorem u3 {a b c d:Nat} (h:a+d<=b) (k:Nat.ble b c=true):a<=c:=Nat.le_trans (Nat.le_add_right a d) (Nat.le_trans h (e1 k))
theorem leX {a b c d:Nat} (h:a<=b) (h2:b<=c) (k:Nat.ble c d=true):a<=d:=Nat.le_trans h (Nat.le_trans h2 (e1 k))
theorem x2 {a b c d:Nat} (h:a<b) (h2:b<=c) (k:Nat.ble c (d+1)=true):a<=d:=Nat.le_of_lt_succ (Nat.lt_of_lt_of_le h (Nat.le_trans h2 (e1 k)))
theorem v1 {a k c C:Nat} (h:a+k<C) (q:Nat.ble c k=true):a+c<C:=Nat.lt_of_le_of_lt (Nat.add_le_add_left (e1 q) a) h
theorem v2 {a k C:Nat} (h:a+k<C):a<C:=Nat.lt_of_le_of_lt (Nat.le_add_right a k) h
theorem n1 {a b:Nat} (h:a<b) (h2:b<=a):False:=Nat.lt_irrefl a (Nat.lt_of_lt_of_le h h2)
noncomputable abbrev LV:=List Value
noncomputable abbrev LN:=List Nat
noncomputable abbrev ON:=Option Nat
abbrev pw:Program:=PySem.Challenge.pw_ty0037_01
namespace Bs
noncomputable abbrev o:=Str.ofString
noncomputable def atI:List Stmt->Nat->Stmt
 | x::_,0=>x
 | _::l,n+1=>atI l n
 | [],_=>.Pass ⟨0,0,0,0⟩
noncomputable def s (i:Nat):Stmt:=atI pw.main.body i
noncomputable def m (i j:Nat):Stmt:=match s i with
 | .ClassDef _ _ _ b _ _ _ _ _ _ _=>atI b j
 | x=>x
noncomputable def f (x:Stmt) (q:String) (cl:Nat) (df:Value) (pm:String) (t cd:Nat) (ct:Value):Obj:=match x with
 | .FunctionDef name args body _ _ _ scope _ _ _=>{cls:=.type "function",data:=.func {name,qualname:=o q,params:=args,body:=.stmts body,scope,globals:=3,closure:=match cl with | 0=>[] | _=>[(o "__class__",131)],defaults:=df,kwdefaults:=.none,pyModule:=.str (o pm) t,code:=.ref cd,closureTuple:=ct}}
 | _=>default
noncomputable def k (n q:String) (t l a r1 r2:Nat) (v1 v2 v3:Value) (u:Nat):Obj:={cls:=.type "code",data:=.fields #[.str (o n) t,.str (o q) (t+1),.str (o "/claim/cut.py") (t+2),.int l 0,.int a 0,.int 0 0,.int 0 0,.int 3 0,.ref r1,.bool true,.int 276 0,.ref r2,.none,v1,v2,v3,.int u 0,.int l 0,.str (o "/claim/cut.py") (u+1)]}
section
variable (h:Str->Int)
noncomputable def e (n:String) (t:Nat) (v:Value):DictEntry:=⟨h (o n),.str (o n) t,v⟩
noncomputable def r (n:String) (t a:Nat):DictEntry:=e h n t (.ref a)
noncomputable def b (n:String) (t:Nat):DictEntry:=e h n t (.builtin n)
noncomputable def c (n:String) (t:Nat):DictEntry:=e h n t (.type n)
end
noncomputable def d:Obj:=⟨.none,none,.freed,#[]⟩
section
variable (h:Str->Int)
noncomputable def o0:Obj:=⟨.type "dict",none,.dict #[e h "__name__" 1 (.str (o "builtins") 160),e h "__doc__" 2 (.builtin "builtins.__doc__:str#opaque"),e h "__package__" 3 (.builtin "builtins.__package__:str#opaque"),e h "__loader__" 4 (.builtin "builtins.__loader__:shared#opaque"),e h "__spec__" 5 (.builtin "builtins.__spec__#opaque"),b h "__build_class__" 6,b h "__import__" 7,b h "abs" 8,b h "all" 9,b h "any" 10,b h "ascii" 11,b h "bin" 12,b h "breakpoint" 13,b h "callable" 14,b h "chr" 15,b h "compile" 16,b h "delattr" 17,b h "dir" 18,b h "divmod" 19,b h "eval" 20,b h "exec" 21,b h "format" 22,b h "getattr" 23,b h "globals" 24,b h "hasattr" 25,b h "hash" 26,b h "hex" 27,b h "id" 28,b h "input" 29,b h "isinstance" 30,b h "issubclass" 31,b h "iter" 32,b h "aiter" 33,b h "len" 34,b h "locals" 35,b h "max" 36,b h "min" 37,b h "next" 38,b h "anext" 39,b h "oct" 40,b h "ord" 41,b h "pow" 42,b h "print" 43,b h "repr" 44,b h "round" 45,b h "setattr" 46,b h "sorted" 47,b h "sum" 48,b h "vars" 49,e h "None" 50 (.none),e h "Ellipsis" 51 (.ellipsis),e h "NotImplemented" 52 (.notImplemented),e h "False" 53 (.bool false),e h "True" 54 (.bool true),c h "bool" 55,c h "memoryview" 56,c h "bytearray" 57,c h "bytes" 58,c h "classmethod" 59,c h "complex" 60,c h "dict" 61,c h "enumerate" 62,c h "filter" 63,c h "float" 64,c h "frozenset" 65,c h "property" 66,c h "int" 67,c h "list" 68,c h "map" 69,c h "object" 70,c h "range" 71,c h "reversed" 72,c h "set" 73,c h "slice" 74,c h "staticmethod" 75,c h "str" 76,c h "super" 77,c h "tuple" 78,c h "type" 79,c h "zip" 80,e h "__debug__" 81 (.bool true),c h "BaseException" 82,c h "BaseExceptionGroup" 83,c h "Exception" 84,c h "GeneratorExit" 85,c h "KeyboardInterrupt" 86,c h "SystemExit" 87,c h "ArithmeticError" 88,c h "AssertionError" 89,c h "AttributeError" 90,c h "BufferError" 91,c h "EOFError" 92,c h "ImportError" 93,c h "LookupError" 94,c h "MemoryError" 95,c h "NameError" 96,c h "OSError" 97,c h "ReferenceError" 98,c h "RuntimeError" 99,c h "StopAsyncIteration" 100,c h "StopIteration" 101,c h "SyntaxError" 102,c h "SystemError" 103,c h "TypeError" 104,c h "ValueError" 105,c h "Warning" 106,c h "FloatingPointError" 107,c h "OverflowError" 108,c h "ZeroDivisionError" 109,c h "BytesWarning" 110,c h "DeprecationWarning" 111,c h "EncodingWarning" 112,c h "FutureWarning" 113,c h "ImportWarning" 114,c h "PendingDeprecationWarning" 115,c h "ResourceWarning" 116,c h "RuntimeWarning" 117,c h "SyntaxWarning" 118,c h "UnicodeWarning" 119,c h "UserWarning" 120,c h "BlockingIOError" 121,c h "ChildProcessError" 122,c h "ConnectionError" 123,c h "FileExistsError" 124,c h "FileNotFoundError" 125,c h "InterruptedError" 126,c h "IsADirectoryError" 127,c h "NotADirectoryError" 128,c h "PermissionError" 129,c h "ProcessLookupError" 130,c h "TimeoutError" 131,c h "IndentationError" 132,c h "_IncompleteInputError" 133,c h "IndexError" 134,c h "KeyError" 135,c h "ModuleNotFoundError" 136,c h "NotImplementedError" 137,c h "PythonFinalizationError" 138,c h "RecursionError" 139,c h "UnboundLocalError" 140,c h "UnicodeError" 141,c h "BrokenPipeError" 142,c h "ConnectionAbortedError" 143,c h "ConnectionRefusedError" 144,c h "ConnectionResetError" 145,c h "TabError" 146,c h "UnicodeDecodeError" 147,c h "UnicodeEncodeError" 148,c h "UnicodeTranslateError" 149,c h "ExceptionGroup" 150,e h "EnvironmentError" 151 (.type "OSError"),e h "IOError" 152 (.type "OSError"),b h "open" 153,e h "quit" 154 (.builtin "builtins.quit#opaque"),e h "exit" 155 (.builtin "builtins.exit#opaque"),e h "copyright" 156 (.builtin "builtins.copyright#opaque"),e h "credits" 157 (.builtin "builtins.credits#opaque"),e h "license" 158 (.builtin "builtins.license#opaque"),e h "help" 159 (.builtin "builtins.help#opaque")] 159,#[]⟩
noncomputable def o2:Obj:=⟨.none,none,.dict #[e h "\x69mport.loaded._sre" 183 (.bool true),r h "class._frozen_importlib.BuiltinImporter" 185 14,r h "watched.\x69mport" 206 18,r h "class._frozen_importlib.ModuleSpec" 216 22,e h "sys.modules.booked-epoch" 245 (.int 3 0),e h "\x69mport.later-laid._sre" 270 (.bool true),r h "watched.library" 272 27,e h "watched.library-objects" 0 (.str (o "\x0c") 0),e h "watched.library-deep._sre" 273 (.str (o "\x04\x00\x00\x0b\x04\x00\x00\x0b\x04\x00\x00\x03\x04\x00\x00\x0b\x08\x04dict\x02") 0)] 9,#[]⟩
noncomputable def o3:Obj:=⟨.type "dict",none,.dict #[e h "__name__" 165 (.str (o "law_ty0037_01") 600),e h "__doc__" 166 (.none),e h "__package__" 167 (.none),e h "__loader__" 168 (.builtin "__main__.__loader__#opaque"),e h "__spec__" 169 (.none),r h "__annotations__" 170 6,r h "__builtins__" 171 4,e h "__file__" 173 (.str (o "/claim/cut.py") 172),e h "__cached__" 174 (.none),r h "_sre" 275 12,r h "_wall" 288 38,r h "_parse_varint" 299 45,r h "_twin_re_1" 329 50,e h "NL" 331 (.str (o "\n") 330),e h "EMPTYSTRING" 333 (.str (o "") 332),r h "_ValueFormatter" 443 123,r h "_Accumulator" 539 207,r h "_netrclex" 599 249,r h "_law_cells" 611 260,r h "_law_drawn" 617 265,r h "_law_signs" 623 270,r h "_law_worth" 632 277,r h "_law_page" 642 284,r h "_law_read" 648 289,r h "_law_numbers" 654 294,r h "_law_parted" 674 301,r h "_law_due" 687 308,r h "law" 693 313] 28,#[]⟩
end
noncomputable def o4:Obj:={cls:=.type "module",dict:=some 0}
noncomputable def o5:Obj:={cls:=.type "module",dict:=some 3}
noncomputable def o6:Obj:={cls:=.type "dict",data:=.dict #[]}
noncomputable def o8:Obj:={cls:=.none,data:=.fields #[]}
noncomputable def o12:Obj:={cls:=.type "module",dict:=some 11}
noncomputable def o44:Obj:=k "_parse_varint" "_parse_varint" 291 6 1 39 40 (.ref 41) (.ref 42) (.ref 43) 297
noncomputable def o45:Obj:=f (s 3) "_parse_varint" 0 (.none) "cpy313.dis" 289 44 (.none)
noncomputable def o49:Obj:={cls:=.type "tuple",data:=.seq #[.int 14 0,.int 4 0,.int 0 0,.int 1 0,.int 4294967295 0,.int 17 0,.int 0 0,.int 24 0,.int 11 0,.int 1 0,.int 4294967295 0,.int 13 0,.int 6 0,.int 16 0,.int 32 0,.int 16 0,.int 9 0,.int 0 0,.int 1 0,.int 17 0,.int 1 0,.int 1 0]}
noncomputable def o50:Obj:={cls:=.type "re.Pattern",data:=.fields #[.str (o "([ \t]+)") 303,.int 32 328,.int 1 0,.none,.none,.ref 49,.int 0 0]}
noncomputable def o63:Obj:=k "__init__" "_ValueFormatter.__init__" 346 20 5 58 59 (.ref 60) (.ref 61) (.ref 62) 354
noncomputable def o64:Obj:=f (m 8 0) "_ValueFormatter.__init__" 0 (.none) "cpy313.email.header" 300 63 (.none)
noncomputable def o70:Obj:=k "_str" "_ValueFormatter._str" 357 28 2 65 66 (.ref 67) (.ref 68) (.ref 69) 362
noncomputable def o71:Obj:=f (m 8 1) "_ValueFormatter._str" 0 (.none) "cpy313.email.header" 300 70 (.none)
noncomputable def o84:Obj:=k "newline" "_ValueFormatter.newline" 372 35 1 79 80 (.ref 81) (.ref 82) (.ref 83) 377
noncomputable def o85:Obj:=f (m 8 3) "_ValueFormatter.newline" 0 (.none) "cpy313.email.header" 300 84 (.none)
noncomputable def o112:Obj:=k "_ascii_split" "_ValueFormatter._ascii_split" 404 55 4 107 108 (.ref 109) (.ref 110) (.ref 111) 413
noncomputable def o113:Obj:=f (m 8 7) "_ValueFormatter._ascii_split" 0 (.none) "cpy313.email.header" 300 112 (.none)
noncomputable def o119:Obj:=k "_append_chunk" "_ValueFormatter._append_chunk" 416 64 3 114 115 (.ref 116) (.ref 117) (.ref 118) 427
noncomputable def o120:Obj:=f (m 8 8) "_ValueFormatter._append_chunk" 0 (.none) "cpy313.email.header" 300 119 (.none)
noncomputable def o122 (h:Str->Int):Obj:=⟨.type "dict",none,.dict #[e h "__module__" 341 (.str (o "cpy313.email.header") 300),e h "__firstlineno__" 345 (.int 18 344),r h "__init__" 356 64,r h "_str" 364 71,r h "__str__" 371 78,r h "newline" 379 85,r h "add_transition" 386 92,r h "feed" 396 99,r h "_maxlengths" 403 106,r h "_ascii_split" 415 113,r h "_append_chunk" 429 120,r h "__static_attributes__" 436 121,r h "__dict__" 438 124,r h "__weakref__" 440 125,e h "__doc__" 441 (.none)] 4,#[]⟩
noncomputable def o123:Obj:={cls:=.type "type",data:=.cls {name:=o "_ValueFormatter",bases:=[.type "object"],mro:=[.ref 123,.type "object"],ns:=122,qualname:=o "_ValueFormatter"},slots:= #[none,none,some (.str (o "_ValueFormatter") 334),some (.str (o "_ValueFormatter") 342),some (.builtin "object.__new__"),some (.bool true)]}
noncomputable def o131:Obj:={cls:=.type "cell",data:=.cell (some (.ref 207))}
noncomputable def o136:Obj:={cls:=.type "tuple",data:=.seq #[.int 0 456]}
noncomputable def o137:Obj:={cls:=.type "tuple",data:=.seq #[.ref 131]}
noncomputable def o143:Obj:=k "__init__" "_Accumulator.__init__" 457 92 2 138 139 (.ref 140) (.ref 141) (.ref 142) 463
noncomputable def o144:Obj:=f (m 9 0) "_Accumulator.__init__" 1 (.ref 136) "cpy313.email.header" 300 143 (.ref 137)
noncomputable def o150:Obj:=k "push" "_Accumulator.push" 466 96 3 145 146 (.ref 147) (.ref 148) (.ref 149) 472
noncomputable def o151:Obj:=f (m 9 1) "_Accumulator.push" 0 (.none) "cpy313.email.header" 300 150 (.none)
noncomputable def o152:Obj:={cls:=.type "tuple",data:=.seq #[.int 0 475]}
noncomputable def o158:Obj:=k "pop_from" "_Accumulator.pop_from" 476 99 2 153 154 (.ref 155) (.ref 156) (.ref 157) 482
noncomputable def o159:Obj:=f (m 9 2) "_Accumulator.pop_from" 0 (.ref 152) "cpy313.email.header" 300 158 (.none)
noncomputable def o160:Obj:={cls:=.type "tuple",data:=.seq #[.ref 131]}
noncomputable def o166:Obj:=k "pop" "_Accumulator.pop" 485 104 1 161 162 (.ref 163) (.ref 164) (.ref 165) 490
noncomputable def o167:Obj:=f (m 9 3) "_Accumulator.pop" 1 (.none) "cpy313.email.header" 300 166 (.ref 160)
noncomputable def o169:Obj:={cls:=.none,data:=.fields #[]}
noncomputable def o173:Obj:=k "__len__" "_Accumulator.__len__" 493 109 1 168 169 (.ref 170) (.ref 171) (.ref 172) 497
noncomputable def o174:Obj:=f (m 9 4) "_Accumulator.__len__" 0 (.none) "cpy313.email.header" 300 173 (.none)
noncomputable def o176:Obj:={cls:=.none,data:=.fields #[]}
noncomputable def o180:Obj:=k "__str__" "_Accumulator.__str__" 500 112 1 175 176 (.ref 177) (.ref 178) (.ref 179) 504
noncomputable def o181:Obj:=f (m 9 5) "_Accumulator.__str__" 0 (.none) "cpy313.email.header" 300 180 (.none)
noncomputable def o182:Obj:={cls:=.type "tuple",data:=.seq #[.none]}
noncomputable def o188:Obj:=k "reset" "_Accumulator.reset" 507 115 2 183 184 (.ref 185) (.ref 186) (.ref 187) 512
noncomputable def o189:Obj:=f (m 9 6) "_Accumulator.reset" 0 (.ref 182) "cpy313.email.header" 300 188 (.none)
noncomputable def o195:Obj:=k "is_onlyws" "_Accumulator.is_onlyws" 515 121 1 190 191 (.ref 192) (.ref 193) (.ref 194) 519
noncomputable def o196:Obj:=f (m 9 7) "_Accumulator.is_onlyws" 0 (.none) "cpy313.email.header" 300 195 (.none)
noncomputable def o197:Obj:={cls:=.type "tuple",data:=.seq #[.ref 131]}
noncomputable def o203:Obj:=k "part_count" "_Accumulator.part_count" 522 124 1 198 199 (.ref 200) (.ref 201) (.ref 202) 527
noncomputable def o204:Obj:=f (m 9 8) "_Accumulator.part_count" 1 (.none) "cpy313.email.header" 300 203 (.ref 197)
noncomputable def o206 (h:Str->Int):Obj:=⟨.type "dict",none,.dict #[e h "__module__" 451 (.str (o "cpy313.email.header") 300),e h "__firstlineno__" 455 (.int 90 454),r h "__init__" 465 144,r h "push" 474 151,r h "pop_from" 484 159,r h "pop" 492 167,r h "__len__" 499 174,r h "__str__" 506 181,r h "reset" 514 189,r h "is_onlyws" 521 196,r h "part_count" 529 204,r h "__static_attributes__" 531 205,r h "__dict__" 534 208,r h "__weakref__" 536 209,e h "__doc__" 537 (.none)] 5,#[]⟩
noncomputable def o207:Obj:={cls:=.type "type",data:=.cls {name:=o "_Accumulator",bases:=[.type "list"],mro:=[.ref 207,.type "list",.type "object"],ns:=206,qualname:=o "_Accumulator"},slots:= #[some (.ref 128),none,some (.str (o "_Accumulator") 444),some (.str (o "_Accumulator") 452),some (.builtin "list.__new__"),some (.bool true)]}
noncomputable def o224:Obj:=k "__init__" "_netrclex.__init__" 554 129 2 219 220 (.ref 221) (.ref 222) (.ref 223) 559
noncomputable def o225:Obj:=f (m 11 0) "_netrclex.__init__" 0 (.none) "cpy313.netrc" 540 224 (.none)
noncomputable def o231:Obj:=k "_read_char" "_netrclex._read_char" 562 135 1 226 227 (.ref 228) (.ref 229) (.ref 230) 567
noncomputable def o232:Obj:=f (m 11 1) "_netrclex._read_char" 0 (.none) "cpy313.netrc" 540 231 (.none)
noncomputable def o238:Obj:=k "get_token" "_netrclex.get_token" 570 141 1 233 234 (.ref 235) (.ref 236) (.ref 237) 577
noncomputable def o239:Obj:=f (m 11 2) "_netrclex.get_token" 0 (.none) "cpy313.netrc" 540 238 (.none)
noncomputable def o248 (h:Str->Int):Obj:=⟨.type "dict",none,.dict #[e h "__module__" 549 (.str (o "cpy313.netrc") 540),e h "__firstlineno__" 553 (.int 127 552),r h "__init__" 561 225,r h "_read_char" 569 232,r h "get_token" 579 239,r h "push_token" 587 246,r h "__static_attributes__" 592 247,r h "__dict__" 594 250,r h "__weakref__" 596 251,e h "__doc__" 597 (.none)] 4,#[]⟩
noncomputable def o249:Obj:={cls:=.type "type",data:=.cls {name:=o "_netrclex",bases:=[.type "object"],mro:=[.ref 249,.type "object"],ns:=248,qualname:=o "_netrclex"},slots:= #[none,none,some (.str (o "_netrclex") 542),some (.str (o "_netrclex") 550),some (.builtin "object.__new__"),some (.bool true)]}
noncomputable def o259:Obj:=k "_law_cells" "_law_cells" 602 171 1 254 255 (.ref 256) (.ref 257) (.ref 258) 609
noncomputable def o260:Obj:=f (s 13) "_law_cells" 0 (.none) "law_ty0037_01" 600 259 (.none)
noncomputable def o264:Obj:=k "_law_drawn" "_law_drawn" 612 176 1 261 262 (.none) (.none) (.ref 263) 615
noncomputable def o265:Obj:=f (s 14) "_law_drawn" 0 (.none) "law_ty0037_01" 600 264 (.none)
noncomputable def o269:Obj:=k "_law_signs" "_law_signs" 618 181 1 266 267 (.none) (.none) (.ref 268) 621
noncomputable def o270:Obj:=f (s 15) "_law_signs" 0 (.none) "law_ty0037_01" 600 269 (.none)
noncomputable def o276:Obj:=k "_law_worth" "_law_worth" 624 183 1 271 272 (.ref 273) (.ref 274) (.ref 275) 630
noncomputable def o277:Obj:=f (s 16) "_law_worth" 0 (.none) "law_ty0037_01" 600 276 (.none)
noncomputable def o283:Obj:=k "_law_page" "_law_page" 633 188 3 278 279 (.ref 280) (.ref 281) (.ref 282) 640
noncomputable def o284:Obj:=f (s 17) "_law_page" 0 (.none) "law_ty0037_01" 600 283 (.none)
noncomputable def o286:Obj:={cls:=.none,data:=.fields #[]}
noncomputable def o288:Obj:=k "_law_read" "_law_read" 643 192 1 285 286 (.none) (.none) (.ref 287) 646
noncomputable def o289:Obj:=f (s 18) "_law_read" 0 (.none) "law_ty0037_01" 600 288 (.none)
noncomputable def o293:Obj:=k "_law_numbers" "_law_numbers" 649 199 1 290 291 (.none) (.none) (.ref 292) 652
noncomputable def o294:Obj:=f (s 19) "_law_numbers" 0 (.none) "law_ty0037_01" 600 293 (.none)
noncomputable def o300:Obj:=k "_law_parted" "_law_parted" 655 208 4 295 296 (.ref 297) (.ref 298) (.ref 299) 672
noncomputable def o301:Obj:=f (s 20) "_law_parted" 0 (.none) "law_ty0037_01" 600 300 (.none)
noncomputable def o307:Obj:=k "_law_due" "_law_due" 675 232 4 302 303 (.ref 304) (.ref 305) (.ref 306) 685
noncomputable def o308:Obj:=f (s 21) "_law_due" 0 (.none) "law_ty0037_01" 600 307 (.none)
noncomputable def o312:Obj:=k "law" "law" 688 244 1 309 310 (.none) (.none) (.ref 311) 691
noncomputable def o313:Obj:=f (s 22) "law" 0 (.none) "law_ty0037_01" 600 312 (.none)
noncomputable def all (h:Str->Int):BT:=.node (o0 h) (.node d (.node (o3 h) (.node d (.node d (.node d (.node o63 .nil .nil) (.node d (.node o159 .nil .nil) .nil)) (.node d (.node d (.node o143 .nil .nil) (.node o207 .nil .nil)) (.node d .nil (.node o239 .nil .nil)))) (.node d (.node d (.node o71 .nil .nil) (.node d (.node o167 .nil .nil) (.node o231 .nil .nil))) (.node d (.node d (.node o151 .nil .nil) .nil) (.node o119 .nil .nil)))) (.node d (.node d (.node d (.node d (.node o131 (.node o259 .nil .nil) .nil) (.node o195 .nil .nil)) .nil) (.node d .nil (.node d (.node d (.node o307 .nil .nil) .nil) .nil))) (.node d (.node d (.node d .nil (.node o203 .nil .nil)) .nil) (.node d (.node d (.node d (.node o283 .nil .nil) .nil) .nil) (.node o123 .nil .nil))))) (.node o5 (.node d (.node d (.node d .nil (.node d (.node d (.node o289 .nil .nil) .nil) (.node o225 .nil .nil))) (.node o49 .nil (.node o113 .nil .nil))) (.node d (.node d (.node d (.node o137 (.node o265 .nil .nil) .nil) .nil) (.node d (.node o169 .nil .nil) .nil)) (.node d .nil (.node d (.node d (.node o313 .nil .nil) .nil) (.node o249 .nil .nil))))) (.node d (.node d (.node d (.node d .nil (.node o197 .nil .nil)) (.node d (.node d (.node o293 .nil .nil) .nil) .nil)) (.node d (.node o85 (.node d (.node o277 .nil .nil) .nil) .nil) (.node d (.node o181 .nil .nil) .nil))) (.node d (.node o45 (.node d (.node d (.node o269 .nil .nil) .nil) .nil) (.node d (.node o173 (.node o301 .nil .nil) .nil) .nil)) (.node d .nil (.node d (.node o189 .nil .nil) .nil)))))) (.node (o2 h) (.node o4 (.node o8 (.node d (.node d (.node o64 .nil .nil) (.node d (.node o160 (.node o288 .nil .nil) .nil) (.node o224 .nil .nil))) (.node d (.node d (.node o144 .nil .nil) .nil) (.node o112 (.node o176 .nil .nil) .nil))) (.node d (.node d (.node d (.node o136 (.node o264 .nil .nil) .nil) .nil) (.node d .nil (.node o232 .nil .nil))) (.node d (.node d (.node o152 .nil .nil) .nil) (.node o120 (.node d (.node o312 .nil .nil) .nil) (.node (o248 h) .nil .nil))))) (.node o12 (.node d (.node d (.node d (.node d (.node o260 .nil .nil) .nil) (.node o196 .nil .nil)) .nil) (.node d (.node o84 (.node d (.node o276 .nil .nil) .nil) .nil) (.node d (.node o180 (.node o308 .nil .nil) .nil) .nil))) (.node d (.node o44 (.node d .nil (.node o204 .nil .nil)) (.node d (.node d (.node o300 .nil .nil) .nil) .nil)) (.node d (.node d (.node d (.node o284 .nil .nil) .nil) .nil) (.node d (.node o188 .nil .nil) .nil))))) (.node o6 (.node d (.node d .nil (.node o50 .nil .nil)) (.node d .nil (.node d .nil (.node (o122 h) .nil .nil)))) (.node d (.node d (.node d (.node o70 .nil .nil) (.node d (.node o166 (.node o294 .nil .nil) .nil) .nil)) (.node d (.node d (.node o150 .nil .nil) .nil) (.node d (.node o182 .nil .nil) .nil))) (.node d (.node d (.node d (.node d (.node o270 .nil .nil) .nil) (.node (o206 h) .nil .nil)) (.node d (.node o174 .nil .nil) (.node o238 .nil .nil))) (.node d (.node d (.node o158 (.node o286 .nil .nil) .nil) .nil) .nil)))))
end Bs
noncomputable def mask:Nat:=0x3FFFFFFBFFFFFFFFFFFFFFFFFFFFFFFFFFEFDFFFFFFFFFFFFFFFFFFFFFFFFFFFFFFFFFFFFFFFFFF
noncomputable def Bs.as:LN:=[0,2,3,4,5,6,8,12,44,45,49,50,63,64,70,71,84,85,112,113,119,120,122,123,131,136,137,143,144,150,151,152,158,159,160,166,167,169,173,174,176,180,181,182,188,189,195,196,197,203,204,206,207,224,225,231,232,238,239,248,249,259,260,264,265,269,270,276,277,283,284,286,288,289,293,294,300,301,307,308,312,313]
lay_z PySem.PyData.keyHash
def tb (w:World):BT:=Bs.all (PySem.W.ZFast.zw15500001179271910561 w.params)
end Mine
set_option compiler.extract_closed false
set_option bootstrap.genMatcherCode false
set_option genCtorIdx false
namespace Mine
abbrev rowL:OpenRow:=PySem.Challenge.rw_ty0037_01.row
noncomputable def vw:Program:=view pw [0,1,3,5,6,7,8,9,11,13,14,15,16,17,18,19,20,21,22]
noncomputable def lseL:List Str:=[Str.ofString "_twin_re_1",Str.ofString "_Accumulator"]
theorem law_left:LeftO rowL.prog vw lseL (fun s=>xlAt vw [] s&&recOk (RowW.records rowL.toRowW) s) (fun s=>(s.heap.objs.size,Bs.as.map s.heap.get?)) (fun w=>(314,Bs.as.map (Bs.all (PyData.keyHash w.params)).get)) 3744:=fun w=>by
 unfold openEnds fencedOpening topFrom
 rw [PySem.W.Fast.te10274390034422433532,PySem.W.Fast.te14082659384304107361,PySem.W.Fast.te14289696077712309145,PySem.W.Fast.te4187177175401517315,PySem.W.Fast.te14364793385576792824]
 kernel_rfl
noncomputable abbrev Led:=List (Nat×Obj)
theorem fa0 {α:Type} {P:α->Prop}:∀q∈([]:List α),P q:=fun _ h=>nomatch h
theorem fa {α:Type} {P:α->Prop} {a:α} {l:List α} (h:P a) (t:∀q∈l,P q):∀q∈a::l,P q:=List.forall_mem_cons.mpr ⟨h,t⟩
theorem neq {a b c:Nat} (h:a<b) (k:b<=c):¬a=c:=Nat.ne_of_lt (Nat.lt_of_lt_of_le h k)
theorem neq' {a b c:Nat} (h:a<b) (k:b<=c):¬c=a:=fun e=>neq h k e.symm
theorem nd2 {a b:Nat} (h:[a,b].Nodup):¬a=b:=by simpa using h
theorem nd3 {a b c:Nat} (h:[a,b,c].Nodup):(¬a=b/\¬a=c)/\¬b=c:=by simpa using h
theorem nn2 {x a b:Nat} (h:x∉[a,b]):¬x=a/\¬x=b:=by simpa using h
theorem nn3 {x a b c:Nat} (h:x∉[a,b,c]):¬x=a/\¬x=b/\¬x=c:=by simpa using h
theorem mn2 {x a b:Nat} (h:¬x=a/\¬x=b):x∉[a,b]:=by simpa using h
theorem mn5 {x a b c d e:Nat} (h:¬x=a/\¬x=b/\¬x=c/\¬x=d/\¬x=e):x∉[a,b,c,d,e]:=by simpa using h
theorem in5 {x a b c d e:Nat} (h:x∈[a,b,c,d,e]):x=a\/x=b\/x=c\/x=d\/x=e:=by simpa using h
theorem nd4 {a b c d:Nat} (h:[a,b,c,d].Nodup):(¬a=b/\¬a=c/\¬a=d)/\(¬b=c/\¬b=d)/\¬c=d:=by simpa using h
theorem nn4 {x a b c d:Nat} (h:x∉[a,b,c,d]):¬x=a/\¬x=b/\¬x=c/\¬x=d:=by simpa using h
theorem nn5 {x a b c d e:Nat} (h:x∉[a,b,c,d,e]):¬x=a/\¬x=b/\¬x=c/\¬x=d/\¬x=e:=by simpa using h
theorem mn3 {x a b c:Nat} (h:¬x=a/\¬x=b/\¬x=c):x∉[a,b,c]:=by simpa using h
theorem in2 {x a b:Nat} (h:x∈[a,b]):x=a\/x=b:=by simpa using h
theorem in3 {x a b c:Nat} (h:x∈[a,b,c]):x=a\/x=b\/x=c:=by simpa using h
theorem nd5i {a b c d e:Nat} (h:[a,b,c,d,e].Nodup):(¬a=b/\¬a=c/\¬a=d/\¬a=e)/\(¬b=c/\¬b=d/\¬b=e)/\(¬c=d/\¬c=e)/\¬d=e:=by simpa using h
theorem nd5 {a b c d e:Nat} (h:(¬a=b/\¬a=c/\¬a=d/\¬a=e)/\(¬b=c/\¬b=d/\¬b=e)/\(¬c=d/\¬c=e)/\¬d=e):[a,b,c,d,e].Nodup:=by simpa using h
theorem inI {L M:Led}:∀p∈L,p∈L\/p∈M:=fun _ h=>.inl h
theorem inS {a:Nat×Obj} {L M:Led} (h:a∈L):∀p∈[a],p∈L\/p∈M:=fun p hp=>.inl (by cases hp with | head=>exact h | tail _ hp=>cases hp)
theorem inO {a:Nat×Obj} {L:Led} (h:a∈L):∀p∈[a],p∈L:=fun p hp=>by cases hp with | head=>exact h | tail _ hp=>cases hp
structure BaseOk (mask:Nat) (w:World) (h:Heap):Prop where
 get:∀a o,Nat.testBit mask a=true->(tb w).get a=some o->o.isFreed=false->h.get? a=some o
 lt:∀a,Nat.testBit mask a=true->a<h.objs.size
 lim:h.NoLimit
 stat:Nat.testBit mask cStatics=true
theorem notFreed {o:Obj} {x:Data} (h:o.data=x) (hx:(⟨.none,none,x,#[]⟩:Obj).isFreed=false):o.isFreed=false:=by
 obtain ⟨a,b,d,c⟩:=o
 cases h
 cases d <;>first | rfl | exact hx
structure Summ where
 code:Code
 need:Led:=[]
 imm:Led:=[]
 Res:Type
 post:Res->Prop:=fun _=>True
 res:Res->Result
 upd:Res->List Obj:=fun _=>[]
 new:Res->Led:=fun _=>[]
 giveImm:Res->Led:=fun _=>[]
 env:Option Env:=none
 d:Nat
 u:Nat
 gneed:List (Nat×Code):=[]
 gone:Nat:=0
 fr:Option (List Env):=none
 giv:Bool:=false
noncomputable def rezip:Led->List Obj->Led
 | p::l,o::os=>(p.1,o)::rezip l os
 | _,_=>[]
structure Out (s s':Shared) (mods:LN) (lv ln li:Led):Prop where
 keep:∀b o,s.heap.get? b=some o->b∉mods->s'.heap.get? b=some o
 gv:∀p∈lv,s'.heap.get? p.1=some p.2
 nw:∀p∈ln,s'.heap.get? p.1=some p.2/\s.heap.objs.size<=p.1
 gi:∀p∈li,s'.heap.get? p.1=some p.2/\s.heap.objs.size<=p.1/\p.1∉ln.map (·.1)
 nodup:(ln.map (·.1)).Nodup
 size:s.heap.objs.size<=s'.heap.objs.size
 os:s'.os=s.os
 bare:AllBare s.gens->AllBare s'.gens
structure RoomOk (A:Around) (S:Summ):Prop where
 handled:A.handled=none
 depth:A.depth+S.d<recursionLimit
 units:A.units+S.u<cLine
 env:∀e,S.env=some e->∃l,A.frames=some (e::l)
 frames:∃l,A.frames=some l
 fr:∀l,S.fr=some l->A.frames=some l
def Valid (mask:Nat) (prog:Program) (w:World) (S:Summ):Prop:=
 ∀A s,RoomOk A S->BaseOk mask w s.heap->(∀p∈S.need,s.heap.get? p.1=some p.2)->(∀p∈S.imm,s.heap.get? p.1=some p.2/\p.1∉S.need.map (·.1))->
  (S.need.map (·.1)).Nodup->(∀p∈S.need,Nat.testBit mask p.1=false)->(∀g∈S.gneed,s.gens[g.1]? =some (.fresh g.2))->
  codeAny (model prog w) A S.code (fun r s'=>∃x,S.post x/\r=S.res x/\(S.upd x).length+S.gone=S.need.length/\Out s s' (S.need.map (·.1)) (rezip S.need (S.upd x)) (S.new x) (S.giveImm x)) s
noncomputable abbrev Vd (w:World) (S:Summ):Prop:=Valid mask pw w S
noncomputable def tokP (k:ON) (tk:Nat):Prop:=match k with
 | none=>True
 | some k=>k<=tk
noncomputable def tokR (k:ON) (P:Prop):Prop:=match k with
 | none=>P
 | some k=>k=k/\P
theorem tokR_true {k:ON} {P:Prop} (h:P):tokR k P:=by
 cases k
 ·exact h
 ·exact ⟨rfl,h⟩
noncomputable def tokQ (k:ON) (n:Nat) (P:Prop):Prop:=match k with
 | none=>P
 | some k=>k=n/\P
set_option genCtorIdx true in
inductive Scr:Type 1 where
 | done (h:Nat) (r:Result) (finM finN:List (Nat×Nat×Obj)) (mv:List (Nat×Nat×Obj))
 | use (h:Nat) (S:Summ) (at_ keep:LN) (mv:List (Nat×Nat×Obj)) (next:(x:S.Res)->Nat->Nat->S.post x->Scr)
 | useG (h:Nat) (k:ON) (S:Summ) (at_ keep:LN) (mv:List (Nat×Nat×Obj)) (next:(x:S.Res)->Nat->(tk:Nat)->S.post x->tokP k tk->Scr)
 | gen (h:Nat) (c:Code) (next:Nat->Scr)
noncomputable def Scr.hint:Scr->Nat
 | .done h _ _ _ _=>h
 | .use h _ _ _ _ _=>h
 | .useG h _ _ _ _ _ _=>h
 | .gen h _ _=>h
section
variable (scr:Scr) (k:Nat->Scr->Prop)
def withH:Prop:=match scr with
 | .done h r a b c=>k h (.done h r a b c)
 | .use h S a b c n=>k h (.use h S a b c n)
 | .useG h t S a b c n=>k h (.useG h t S a b c n)
 | .gen h c n=>k h (.gen h c n)
theorem withH_eq:withH scr k=k scr.hint scr:=by cases scr <;>rfl
end
noncomputable def force (a:Nat) (f:Nat->Prop):Prop:=match a with
 | 0=>f 0
 | n+1=>f (n+1)
theorem force_eq (a:Nat) (f:Nat->Prop):force a f=f a:=by cases a <;>rfl
set_option genCtorIdx true in
inductive Kont where
 | base
 | ret (c:Code) (hd:Option Value) (k:Result->Sem Fin) (κ:Kont)
noncomputable def arK (A₀:Around):Kont->Around
 | .base=>A₀
 | .ret c hd _ κ=>((arK A₀ κ).under c).mark hd
noncomputable def endK (prog:Program) (w:World) (A₀:Around) (R₀:Result->Shared->Prop):Kont->Result->Shared->Prop
 | .base=>R₀
 | .ret c _ k κ=>postR prog w (arK A₀ κ) c (postC prog w (arK A₀ κ) (endK prog w A₀ R₀ κ)) (postE (endK prog w A₀ R₀ κ)) k
noncomputable def hdlK:Kont->Option Value
 | .base=>none
 | .ret _ hd _ κ=>hd.or (hdlK κ)
noncomputable def depK:Kont->Nat
 | .base=>0
 | .ret c _ _ κ=>depK κ+c.weight
noncomputable def uniK:Kont->Nat
 | .base=>0
 | .ret c _ _ κ=>uniK κ+c.cUnits
noncomputable def envK:Kont->Option Env
 | .base=>none
 | .ret c _ _ κ=>match c.envs with
  | e::_=>some e
  | []=>envK κ
noncomputable def frK (l0:Option (List Env)):Kont->Option (List Env)
 | .base=>l0
 | .ret c _ _ κ=>match frK l0 κ with
  | some l=>some (c.envs++l)
  | none=>none
theorem hdlK_eq {A₀:Around} (h:A₀.handled=none):∀κ,(arK A₀ κ).handled=hdlK κ
 | .base=>h
 | .ret c hd k κ=>by
  show hd.or ((arK A₀ κ).under c).handled=_
  show hd.or (arK A₀ κ).handled=_
  rw [hdlK_eq h κ];rfl
theorem depK_eq {A₀:Around}:∀κ,(arK A₀ κ).depth=A₀.depth+depK κ
 | .base=>rfl
 | .ret c hd k κ=>by
  show (arK A₀ κ).depth+c.weight=_
  rw [depK_eq κ,Nat.add_assoc];rfl
theorem uniK_eq {A₀:Around}:∀κ,(arK A₀ κ).units=A₀.units+uniK κ
 | .base=>rfl
 | .ret c hd k κ=>by
  show (arK A₀ κ).units+c.cUnits=_
  rw [uniK_eq κ,Nat.add_assoc];rfl
theorem envK_eq {A₀:Around} {l₀:List Env} (h:A₀.frames=some l₀):∀κ,∃l,(arK A₀ κ).frames=some l/\∀e,envK κ=some e->∃l',l=e::l'
 | .base=>⟨l₀,h,fun _ e=>nomatch e⟩
 | .ret c hd k κ=>by
  obtain ⟨l,e,q⟩:=envK_eq h κ
  have z:(arK A₀ (.ret c hd k κ)).frames=some (c.envs++l):=by
   show pushEnvs c.envs (arK A₀ κ).frames=_
   rw [e,pushEnvs_eq];rfl
  refine ⟨_,z,fun e' he=>?_⟩
  unfold envK at he
  split at he
  ·rename_i x r hx;rw [hx];cases he;exact ⟨_,rfl⟩
  ·rename_i hx;rw [hx];exact q e' he
theorem frK_eq {A₀:Around} {l0:Option (List Env)} (h:∀l,l0=some l->A₀.frames=some l):∀κ l,frK l0 κ=some l->(arK A₀ κ).frames=some l
 | .base,l,e=>h l e
 | .ret c hd k κ,l,e=>by
  unfold frK at e
  split at e
  ·rename_i l' e'
   cases e
   show pushEnvs c.envs (arK A₀ κ).frames=_
   rw [frK_eq h κ l' e',pushEnvs_eq];rfl
  ·cases e
noncomputable def statOk (o:Obj):Bool:=match o.data with
 | .dict es _=>es.toList.all fun e=>match e.key with
  | .str n _=> !(n==("sys.recursionlimit":Str))
  | _=>false
 | _=>false
def efT:Sem Unit:=.load cStatics none fun o=>bif statOk o then .pure () else .unsupported "no"
section
variable (ef:Sem Unit) (self:Addr) (fd:FuncData) (args:Args)
noncomputable def callG:Sem Fin:=do
 let compiled ←match fd.code with
  | .none=>pure fd.qualname
  | c=>do match ←field c 1 with
   | .str q _=>pure q
   | _=>pure fd.qualname
 let env ←newFunctionEnv fd.scope fd.globals fd.closure (←bindArgs fd args) (compiled++".<locals>.") (some self) fd.code none fd.builtins
 ef
 let code:Code:=match fd.body with
  | .stmts b=>.func b env
  | .expr e=>.expr e env
 match fd.scope.isGenerator,fd.scope.isCoroutine with
 | false,false=>again code
 | true,false=>ret (←newGenerator code fd.name fd.qualname)
 | false,true=>ret (←newCoroutine code fd.name fd.qualname)
 | true,true=>ret (←newAsyncGenerator code fd.name fd.qualname)
noncomputable def callTail (compiled:Str):Sem Fin:=do
 let env ←newFunctionEnv fd.scope fd.globals fd.closure (←bindArgs fd args) (compiled++".<locals>.") (some self) fd.code none fd.builtins
 ef
 let code:Code:=match fd.body with
  | .stmts b=>.func b env
  | .expr e=>.expr e env
 match fd.scope.isGenerator,fd.scope.isCoroutine with
 | false,false=>again code
 | true,false=>ret (←newGenerator code fd.name fd.qualname)
 | false,true=>ret (←newCoroutine code fd.name fd.qualname)
 | true,true=>ret (←newAsyncGenerator code fd.name fd.qualname)
theorem callG_eq:callG ef self fd args=(match fd.code with
  | .none=>callTail ef self fd args fd.qualname
  | c=>field c 1>>=fun v=>match v with
   | .str q _=>callTail ef self fd args q
   | _=>callTail ef self fd args fd.qualname):=rfl
end
theorem callFunction_G:callFunction=callG enterFrame:=rfl
def callT (f:Value) (args:Args):Sem Fin:=match f with
 | .ref a=>.load a none fun o=>match o.data with
  | .func fd=>callG efT a fd args
  | _=>.unsupported "no"
 | _=>.unsupported "no"
theorem nsFind_none {es:Array DictEntry} {n:Str} (h:∀e∈es,e.key.isStr n=false):nsFind es n=none:=by
 unfold nsFind findBy
 rw [Array.find?_eq_none.mpr fun e he=>by show ¬(e.key.isStr n=true);rw [h e he];exact Bool.false_ne_true]
 rfl
theorem noLimit_of {h:Heap} {o:Obj} (ho:h.get? cStatics=some o) (hs:statOk o=true):h.NoLimit:=by
 unfold statOk at hs
 split at hs
 ·rename_i es ep hd
  have z:=List.all_eq_true.mp hs
  refine ⟨nsFind es,⟨o,es,ep,ho,hd,fun e he=>?_,fun _=>rfl⟩,nsFind_none fun e he=>?_⟩
  ·have q:=z e (by simpa using he)
   revert q
   cases hk:e.key <;>intro q <;>first | exact ⟨_,_,rfl⟩ | cases q
  ·have q:=z e (by simpa using he)
   revert q
   cases hk:e.key <;>intro q <;>first | rfl | (simpa [Value.isStr] using q)
 ·cases hs
section
variable {M:Model} {A:Around} {Γ:PySem.Ctx}
theorem wp_ifn {α:Type} {M:Model} {Γ:PySem.Ctx} {c:Prop} [Decidable c] {t f:Sem α} {Q:α->Pos->Shared->Prop} {E:Value->Pos->Shared->Prop} {p:Pos} {s:Shared} (h:¬c) (k:Sem.wp M Γ f Q E p s):Sem.wp M Γ (if c then t else f) Q E p s:=by rw [if_neg h];exact k
theorem wp_ef {Q:Unit->Pos->Shared->Prop} {E:Value->Pos->Shared->Prop} {p:Pos} {s:Shared} (hΓ:Γ.In A) (hd:A.depth<recursionLimit) (h:Sem.wp M Γ efT Q E p s):Sem.wp M Γ enterFrame Q E p s:=by
 unfold efT at h
 rw [Sem.wp_load] at h
 obtain ⟨o,ho,h⟩:=h
 cases hs:statOk o with
 | false=>rw [hs] at h;simp at h
 | true=>
  rw [hs] at h
  simp only [cond_true,Sem.wp_pure] at h
  obtain ⟨mc,hns,hnone⟩:=noLimit_of ho hs
  have hge:=frameCount_ge ((Γ.code,p)::Γ.below)
  rw [frameCount_cons] at hge
  have hb:=hΓ.2.1
  have hnear:=not_nearTheLimit (p:=p) hΓ hd
  show Sem.wp M Γ (Sem.stack _) Q E p s
  rw [Sem.wp]
  show Sem.wp M Γ (nsGet cStatics "sys.recursionlimit">>=_>>=_) Q E p s
  simp only [Sem.wp_bind']
  rw [Sem.wp_nsGet M Γ _ p s hns,hnone]
  have f1:∀x:Nat,x-0=x:=fun _=>rfl
  have hlt:=Nat.lt_of_le_of_lt (Nat.le_trans hge (Nat.le_trans (Nat.le_of_eq (Nat.add_comm _ _)) hb)) hd
  have no1:¬((((Γ.code,p)::Γ.below).map (·.1)).map (·.frames)).sum-0>=recursionLimit:=by rw [f1];exact Nat.not_le.mpr (Nat.lt_of_le_of_lt (Nat.le_add_right _ _) hlt)
  have no2:¬((((Γ.code,p)::Γ.below).map (·.1)).map (·.frames)).sum-0+((((Γ.code,p)::Γ.below).map (·.1)).filter Code.isCreation).length>=recursionLimit:=by rw [f1];exact Nat.not_le.mpr hlt
  refine wp_ifn (fun q=>absurd (hnear.symm.trans q) Bool.false_ne_true) (wp_ifn no1 (wp_ifn no2 ?_))
  exact (Sem.wp_pure' M Γ () Q E p s).symm▸h
theorem wp_callG {self:Addr} {fd:FuncData} {args:Args} {Q:Fin->Pos->Shared->Prop} {E:Value->Pos->Shared->Prop} {p:Pos} {s:Shared} (hΓ:Γ.In A) (hd:A.depth<recursionLimit)
  (h:Sem.wp M Γ (callG efT self fd args) Q E p s):Sem.wp M Γ (callG enterFrame self fd args) Q E p s:=by
 have hf:∀(compiled:Str) (p:Pos) (s:Shared),Sem.wp M Γ (callTail efT self fd args compiled) Q E p s->Sem.wp M Γ (callTail enterFrame self fd args compiled) Q E p s:=by
  intro compiled p s h
  unfold callTail at h ⊢
  rw [Sem.wp_bind'] at h ⊢
  refine Sem.wp_mono M Γ _ (fun binds p₂ s₂ h₂=>?_) (fun _ _ _ x=>x) p s h
  rw [Sem.wp_bind'] at h₂ ⊢
  refine Sem.wp_mono M Γ _ (fun env p₃ s₃ h₃=>?_) (fun _ _ _ x=>x) p₂ s₂ h₂
  rw [Sem.wp_bind'] at h₃ ⊢
  exact wp_ef hΓ hd h₃
 rw [callG_eq] at h ⊢
 split at h
 ·exact hf _ _ _ h
 ·rw [Sem.wp_bind'] at h ⊢
  refine Sem.wp_mono M Γ _ (fun v p₁ s₁ h₁=>?_) (fun _ _ _ x=>x) p s h
  split at h₁
  ·exact hf _ _ _ h₁
  ·exact hf _ _ _ h₁
end
section
variable {prog:Program} {w:World} {A:Around}
theorem own_callT {f:Value} {args:Args} {Q:Fin->Shared->Prop} {E:Value->Shared->Prop} {s:Shared} (hd:(A.under (.call f args)).depth<recursionLimit)
  (h:wpOwn (model prog w) A (.call f args) (callT f args) Q E s):wpOwn (model prog w) A (.call f args) (denote table (.call f args)) Q E s:=fun Γ p hc hΓ=>by
 have z:=h Γ p hc hΓ
 have hin:Γ.In (A.under (.call f args)):=hc▸hΓ.in
 show Sem.wp _ Γ (callAny f args) _ _ p s
 cases f with
 | ref a=>
  unfold callT at z
  rw [Sem.wp_load] at z
  obtain ⟨o,ho,z⟩:=z
  show Sem.wp _ Γ (PySem.load a>>=_) _ _ p s
  rw [Sem.wp_bind']
  show Sem.wp _ Γ (Sem.load a none _) _ _ p s
  rw [Sem.wp_load]
  refine ⟨o,ho,?_⟩
  rw [Sem.wp_pure]
  split at z
  ·rename_i fd e
   rw [e]
   show Sem.wp _ Γ (callFunction a fd args) _ _ p s
   rw [callFunction_G]
   exact wp_callG hin hd z
  ·simp at z
 | _=>unfold callT at z;simp at z
end
noncomputable abbrev Ty:=Code->Kont->Sem Fin->Led->Led->BT->Nat->Nat->Nat->Nat->Nat->Scr->Prop
noncomputable abbrev Rst:=Led->Led->BT->Nat->Nat->Nat->Nat->Nat->Scr->Prop
noncomputable def B:Nat:=1024
def bad:Rst:=fun _ _ _ _ _ _ _ _ _=>False
noncomputable def nth:Led->Nat->Nat×Obj
 | [],_=>(0,{cls:=.none})
 | p::l,i=>match Nat.beq i 0 with
  | true=>p
  | false=>nth l (i-1)
noncomputable def nthK:LN->Nat->Nat
 | [],_=>0
 | p::l,i=>match Nat.beq i 0 with
  | true=>p
  | false=>nthK l (i-1)
noncomputable def has:Led->Nat->Bool
 | [],_=>false
 | _::l,i=>match Nat.beq i 0 with
  | true=>true
  | false=>has l (i-1)
noncomputable def setN:Led->Nat->Obj->Led
 | [],_,_=>[]
 | p::l,i,o=>match Nat.beq i 0 with
  | true=>(p.1,o)::l
  | false=>p::setN l (i-1) o
noncomputable def keyP (N:Nat) (led fr:Led) (p:Nat):Nat:=match p%3 with
 | 0=>(nth led (p/3)).1
 | 1=>(nth fr (p/3)).1
 | _=>N+p/3
def keyK (N:Nat) (lk fk:LN) (p:Nat):Nat:=match p%3 with
 | 0=>nthK lk (p/3)
 | 1=>nthK fk (p/3)
 | _=>N+p/3
noncomputable def getP (led fr:Led) (T:BT) (p:Nat):Option Obj:=match p%3 with
 | 0=>match has led (p/3) with
  | true=>some (nth led (p/3)).2
  | false=>none
 | 1=>match has fr (p/3) with
  | true=>some (nth fr (p/3)).2
  | false=>none
 | _=>T.get (p/3)
structure St3 where
 led:Led
 fr:Led
 T:BT
noncomputable def setP (x:St3) (p:Nat) (o:Obj):St3:=match p%3 with
 | 0=>⟨setN x.led (p/3) o,x.fr,x.T⟩
 | 1=>⟨x.led,setN x.fr (p/3) o,x.T⟩
 | _=>⟨x.led,x.fr,x.T.set (p/3) fun _=>o⟩
noncomputable def setAll:St3->LN->List Obj->St3
 | x,p::ps,o::os=>setAll (setP x p o) ps os
 | x,_,_=>x
noncomputable def notIn (p:Nat):LN->Bool
 | []=>true
 | q::l=>match Nat.beq p q with
  | true=>false
  | false=>notIn p l
noncomputable def apartB:LN->Bool
 | []=>true
 | p::l=>match notIn p l with
  | true=>apartB l
  | false=>false
noncomputable def freshB:LN->Bool
 | []=>true
 | p::l=>match Nat.beq (p%3) 0 with
  | true=>false
  | false=>freshB l
noncomputable def goneB:LN->List Obj->LN->Bool
 | [],_,_=>true
 | _::ps,_::os,keep=>goneB ps os keep
 | p::ps,[],keep=>match Nat.beq (p%3) 0 with
  | true=>false
  | false=>match notIn p keep with
   | true=>goneB ps [] keep
   | false=>false
noncomputable def takeP (N:Nat) (x:St3):LN->Option Led
 | []=>some []
 | p::l=>match getP x.led x.fr x.T p with
  | some o=>match takeP N x l with
   | some r=>some ((keyP N x.led x.fr p,o)::r)
   | none=>none
  | none=>none
def matchN (N:Nat) (x:St3):LN->Led->Prop->Prop
 | p::ps,q::l,k=>match getP x.led x.fr x.T p with
  | some o=>keyP N x.led x.fr p=q.1/\o=q.2/\matchN N x ps l k
  | none=>False
 | [],[],k=>k
 | _,_,_=>False
def matchT:LN->Led->Prop->Prop
 | _::ps,q::l,k=>q.1=q.1/\q.2=q.2/\matchT ps l k
 | _,_,k=>k
noncomputable def posOf:List (Nat×Nat×Obj)->LN
 | []=>[]
 | p::l=>p.1::posOf l
noncomputable def ledOf:List (Nat×Nat×Obj)->Led
 | []=>[]
 | p::l=>p.2::ledOf l
noncomputable def okMark (hd:Option Value):Bool:=match hd with
 | none=>true
 | some v=> !decide (v=byPass)
def roomB (κ:Kont) (D U:Nat) (S:Summ):Bool:=match Nat.ble (depK κ+S.d) D with
 | true=>match Nat.ble (uniK κ+S.u) U with
  | true=>match hdlK κ with
   | none=>true
   | some _=>false
  | false=>false
 | false=>false
noncomputable def oddB:LN->Bool
 | []=>true
 | p::l=>match Nat.beq (p%3) 0 with
  | true=>oddB l
  | false=>false
def postB (at_ keep mvp:LN):Bool:=match apartB at_ with
 | true=>match apartB (mvp++keep) with
  | true=>match apartB (mvp++at_) with
   | true=>match freshB (mvp++keep) with
    | true=>true
    | false=>false
   | false=>false
  | false=>false
 | false=>false
section
variable (den:Code->Sem Fin) (clT:Value->Args->Sem Fin) (sg:Setting) (mask:Nat) (tbl:BT) (ro:Led) (D U:Nat) (l0:Option (List Env)) (ih:Ty)
def withO (a:Addr) (k:Obj->Rst):Rst:=fun led fr T m i N tk h scr=>match h%B with
 | 0=>force a fun a=>match Nat.testBit mask a with
  | true=>match tbl.get a with
   | some o=>match o.isFreed with
    | false=>k o led fr T m i N tk (h/B) scr
    | true=>False
   | none=>False
  | false=>False
 | d+1=>match Nat.ble 511 d with
  | true=>match has ro (d-511) with
   | true=>a=(nth ro (d-511)).1/\k (nth ro (d-511)).2 led fr T m i N tk (h/B) scr
   | false=>False
  | false=>match getP led fr T (d-5) with
  | some o=>a=keyP N led fr (d-5)/\k o led fr T m i N tk (h/B) scr
  | none=>False
def retK (r:Result) (κ:Kont):Rst:=match κ with
 | .ret c _ k κ=>ih c κ (k r)
 | .base=>fun led fr T m _ N _ h scr=>match scr with
  | .done _ r' finM finN mv=>match h%B with
   | 4=>match postB (posOf finM) (posOf finN) (posOf mv) with
    | true=>match oddB (posOf finM) with
     | true=>r=r'/\matchN N ⟨led,fr,T⟩ (posOf finM) (ledOf finM) (matchN N ⟨led,fr,T⟩ (posOf finN) (ledOf finN) (matchN N ⟨led,fr,T⟩ (posOf mv) (ledOf mv) True))
     | false=>False
    | false=>False
   | _=>False
  | _=>False
def envP (κ:Kont) (S:Summ) (k:Prop):Prop:=match S.env with
 | none=>k
 | some e=>envK κ=some e/\k
noncomputable def envT (S:Summ) (k:Prop):Prop:=match S.env with
 | none=>k
 | some e=>some e=some e/\k
def frP (l0:Option (List Env)) (κ:Kont) (S:Summ) (k:Prop):Prop:=match S.fr with
 | none=>k
 | some l=>frK l0 κ=some l/\k
noncomputable def frT (S:Summ) (k:Prop):Prop:=match S.fr with
 | none=>k
 | some l=>some l=some l/\k
def useB (P:Nat->Prop) (c':Code) (κ:Kont) (S:Summ) (at_ keep:LN) (mv:List (Nat×Nat×Obj)) (next:(x:S.Res)->Nat->(tk:Nat)->S.post x->P tk->Scr) (led fr:Led) (T:BT) (N:Nat):Prop:=match roomB κ D U S with
  | true=>match postB at_ keep (posOf mv) with
   | true=>c'=S.code/\envP κ S (frP l0 κ S (matchN N ⟨led,fr,T⟩ at_ S.need (matchN N ⟨led,fr,T⟩ (posOf mv) (ledOf mv) (∀(x:S.Res) (N' tk':Nat) (hx:S.post x) (ht:P tk'),
     match goneB at_ (S.upd x) keep with
     | false=>False
     | true=>match takeP N (setAll ⟨led,fr,T⟩ at_ (S.upd x)) keep with
     | some fr'=>withH (next x N' tk' hx ht) fun h' scr'=>retK ih (S.res x) κ (setAll ⟨led,fr,T⟩ at_ (S.upd x)).led (fr'++S.new x) .nil 0 0 N' tk' h' scr'
     | none=>False))))
   | false=>False
  | false=>False
def useK (c':Code) (κ:Kont):Rst:=fun led fr T _ i N tk _ scr=>match scr with
 | .done .. =>False
 | .gen .. =>False
 | .use _ S at_ keep mv next=>match S.gneed with
  | []=>useB D U l0 ih (fun _=>True) c' κ S at_ keep mv (fun x N' tk' hx _=>next x N' tk' hx) led fr T N
  | _::_=>False
 | .useG _ k S at_ keep mv next=>tokQ k (tk+i) (useB D U l0 ih (tokP k) c' κ S at_ keep mv next led fr T N)
def entK (c':Code) (κ:Kont):Rst:=fun led fr T m i N tk h scr=>match h%B with
 | 0=>ih c' κ (den c') led fr T m i N tk (h/B) scr
 | 1=>useK D U l0 ih c' κ led fr T m i N tk (h/B) scr
 | 2=>match c' with
  | .call f args=>match Nat.ble (depK κ+(Code.call f args).weight) D with
   | true=>ih c' κ (clT f args) led fr T m i N tk (h/B) scr
   | false=>False
  | _=>False
 | _=>False
noncomputable def onB (b:Bool) (x:Rst):Rst:=match b with
 | true=>x
 | false=>bad
section
variable (c:Code) (κ:Kont)
noncomputable def allocK (o:Obj) (k:Nat->Sem Fin):Rst:=fun led fr T m i N tk h scr=>match o.isFreed with
 | true=>False
 | false=>match (T.ins m o).get m with
  | some _=>ih c κ (k (N+m)) led fr (T.ins m o) (m+1) i N tk h scr
  | none=>False
noncomputable def updK (a:Nat) (f:Obj->Obj) (k:Unit->Sem Fin):Rst:=fun led fr T m i N tk h scr=>match h%B with
 | 0=>False
 | d+1=>match getP led fr T (d-5) with
  | some o=>match (f o).isFreed with
   | true=>False
   | false=>a=keyP N led fr (d-5)/\match (d-5)%3 with
    | 0=>ih c κ (k ()) (setN led ((d-5)/3) (f o)) fr T m i N tk (h/B) scr
    | 1=>ih c κ (k ()) led (setN fr ((d-5)/3) (f o)) T m i N tk (h/B) scr
    | _=>ih c κ (k ()) led fr (T.set ((d-5)/3) fun _=>f o) m i N tk (h/B) scr
  | none=>False
noncomputable def genK (c₁:Code) (k:Nat->Sem Fin):Rst:=fun led fr T m i N tk h scr=>match h%B with
 | 5=>match scr with
  | .gen _ c' next=>c₁=c'/\∀G:Nat,withH (next G) fun h' scr'=>ih c κ (k G) led fr T m i N tk h' scr'
  | _=>False
 | _=>False
noncomputable def stackK (k:List (Code×Pos)->Sem Fin):Rst:=fun led fr T m i N tk h scr=>match h%B with
 | 3=>∀(p:Pos) (below:List (Code×Pos)),ih c κ (k ((c,p)::below)) led fr T m i N tk (h/B) scr
 | _=>False
end
def stepK:Ty:=fun c κ t=>match t with
 | .pure fin=>match fin with
  | .done f=>retK ih (.ok f) κ
  | .again c'=>onB c'.quiet (entK den clT D U l0 ih c' κ)
 | .raise e=>retK ih (.error e) κ
 | .rule _ k=>ih c κ (k ())
 | .at _ k=>ih c κ (k ())
 | .point _ k=>ih c κ (k ())
 | .ask k=>ih c κ (k sg)
 | .load a _ k=>withO mask tbl ro a fun o=>ih c κ (k o)
 | .loadIfAlive a k=>withO mask tbl ro a fun o=>ih c κ (k (some o))
 | .alloc o k=>allocK ih c κ o k
 | .update a _ f k=>updK ih c κ a f k
 | .fresh k=>fun led fr T m i N tk h scr=>ih c κ (k (tk+i)) led fr T m (i+1) N tk h scr
 | .newGen c₁ k=>genK ih c κ c₁ k
 | .handled own k=>match own with
  | false=>ih c κ (k (hdlK κ))
  | true=>bad
 | .stack k=>stackK ih c κ k
 | .call c' hd _ _ k=>onB (okMark hd) (entK den clT D U l0 ih c' (.ret c hd k κ))
 | _=>bad
end
def chk (den:Code->Sem Fin) (clT:Value->Args->Sem Fin) (sg:Setting) (mask:Nat) (tbl:BT) (ro:Led) (D U:Nat) (l0:Option (List Env)):Nat->Ty:=fun n=>
 Nat.rec (motive:=fun _=>Ty) (fun _ _ _=>bad) (fun _ ih=>stepK den clT sg mask tbl ro D U l0 ih) n
def triv (rk:LN):Nat->LN->LN->Nat->Nat->Scr->Prop:=fun n=>
 Nat.rec (motive:=fun _=>LN->LN->Nat->Nat->Scr->Prop) (fun _ _ _ _ _=>True)
  (fun _ ih lk fk N h scr=>match h%B with
   | 0=>ih lk fk N (h/B) scr
   | 1=>match scr with
    | .done .. =>True
    | .gen .. =>True
    | .use _ S at_ keep mv next=>S.code=S.code/\envT S (frT S (matchT at_ S.need (matchT (posOf mv) (ledOf mv) (∀(x:S.Res) (N' tk':Nat) (hx:S.post x) (_:True),
      withH (next x N' tk' hx) fun h' scr'=>ih lk (keep.map (keyK N lk fk)++(S.new x).map (·.1)) N' h' scr'))))
    | .useG _ k S at_ keep mv next=>tokR k (S.code=S.code/\envT S (frT S (matchT at_ S.need (matchT (posOf mv) (ledOf mv) (∀(x:S.Res) (N' tk':Nat) (hx:S.post x) (ht:tokP k tk'),
      withH (next x N' tk' hx ht) fun h' scr'=>ih lk (keep.map (keyK N lk fk)++(S.new x).map (·.1)) N' h' scr')))))
   | 2=>ih lk fk N (h/B) scr
   | 3=>∀(_:Pos) (_:List (Code×Pos)),ih lk fk N (h/B) scr
   | 4=>match scr with
    | .done _ r finM finN mv=>r=r/\matchT (posOf finM) (ledOf finM) (matchT (posOf finN) (ledOf finN) (matchT (posOf mv) (ledOf mv) True))
    | _=>True
   | 5=>match scr with
    | .gen _ c next=>c=c/\∀G:Nat,withH (next G) fun h' scr'=>ih lk fk N h' scr'
    | _=>True
   | d+1=>match Nat.ble 511 d with
    | true=>nthK rk (d-511)=nthK rk (d-511)/\ih lk fk N (h/B) scr
    | false=>keyK N lk fk (d-5)=keyK N lk fk (d-5)/\ih lk fk N (h/B) scr) n
theorem matchT_true {k:Prop} (h:k):∀(ps:LN) (l:Led),matchT ps l k
 | [],_=>by unfold matchT;exact h
 | _::_,[]=>by unfold matchT;exact h
 | _::ps,q::l=>⟨rfl,rfl,matchT_true h ps l⟩
theorem envT_true {k:Prop} {S:Summ} (h:k):envT S k:=by
 unfold envT;split
 ·exact h
 ·exact ⟨rfl,h⟩
theorem frT_true {k:Prop} {S:Summ} (h:k):frT S k:=by
 unfold frT;split
 ·exact h
 ·exact ⟨rfl,h⟩
theorem triv_true {rk:LN}:∀(n:Nat) (lk fk:LN) (N h:Nat) (scr:Scr),triv rk n lk fk N h scr
 | 0,_,_,_,_,_=>trivial
 | n+1,lk,fk,N,h,scr=>by
  show (match h%B with
   | 0=>triv rk n lk fk N (h/B) scr
   | 1=>match scr with
    | .done .. =>True
    | .gen .. =>True
    | .use _ S at_ keep mv next=>S.code=S.code/\envT S (frT S (matchT at_ S.need (matchT (posOf mv) (ledOf mv) (∀(x:S.Res) (N' tk':Nat) (hx:S.post x) (_:True),
      withH (next x N' tk' hx) fun h' scr'=>triv rk n lk (keep.map (keyK N lk fk)++(S.new x).map (·.1)) N' h' scr'))))
    | .useG _ k S at_ keep mv next=>tokR k (S.code=S.code/\envT S (frT S (matchT at_ S.need (matchT (posOf mv) (ledOf mv) (∀(x:S.Res) (N' tk':Nat) (hx:S.post x) (ht:tokP k tk'),
      withH (next x N' tk' hx ht) fun h' scr'=>triv rk n lk (keep.map (keyK N lk fk)++(S.new x).map (·.1)) N' h' scr')))))
   | 2=>triv rk n lk fk N (h/B) scr
   | 3=>∀(_:Pos) (_:List (Code×Pos)),triv rk n lk fk N (h/B) scr
   | 4=>match scr with
    | .done _ r finM finN mv=>r=r/\matchT (posOf finM) (ledOf finM) (matchT (posOf finN) (ledOf finN) (matchT (posOf mv) (ledOf mv) True))
    | _=>True
   | 5=>match scr with
    | .gen _ c next=>c=c/\∀G:Nat,withH (next G) fun h' scr'=>triv rk n lk fk N h' scr'
    | _=>True
   | d+1=>match Nat.ble 511 d with
    | true=>nthK rk (d-511)=nthK rk (d-511)/\triv rk n lk fk N (h/B) scr
    | false=>keyK N lk fk (d-5)=keyK N lk fk (d-5)/\triv rk n lk fk N (h/B) scr)
  split
  ·exact triv_true n _ _ _ _ _
  ·split
   ·trivial
   ·trivial
   ·exact ⟨rfl,envT_true (frT_true (matchT_true (matchT_true (fun x N' tk' _ _=>by rw [withH_eq];exact triv_true n _ _ _ _ _) _ _) _ _))⟩
   ·exact tokR_true ⟨rfl,envT_true (frT_true (matchT_true (matchT_true (fun x N' tk' _ _=>by rw [withH_eq];exact triv_true n _ _ _ _ _) _ _) _ _))⟩
  ·exact triv_true n _ _ _ _ _
  ·exact fun _ _=>triv_true n _ _ _ _ _
  ·split
   ·exact ⟨rfl,matchT_true (matchT_true (matchT_true trivial _ _) _ _) _ _⟩
   ·trivial
  ·split
   ·exact ⟨rfl,fun G=>by rw [withH_eq];exact triv_true n _ _ _ _ _⟩
   ·trivial
  ·split
   ·exact ⟨rfl,triv_true n _ _ _ _ _⟩
   ·exact ⟨rfl,triv_true n _ _ _ _ _⟩
structure OblG where
 R:Result->Shared->Prop
 s₀:Shared
 mods:LN
 imm0:Led
noncomputable abbrev Post (S:Summ) (s:Shared) (r:Result) (s':Shared):Prop:=∃x,S.post x/\r=S.res x/\(S.upd x).length+S.gone=S.need.length/\Out s s' (S.need.map (·.1)) (rezip S.need (S.upd x)) (S.new x) (S.giveImm x)
noncomputable def gOf (S:Summ) (s:Shared):OblG:=⟨Post S s,s,S.need.map (·.1),S.imm⟩
def bagK (S:Summ) (x:S.Res) (bag:Led) (mv:List (Nat×Nat×Obj)) (k:Led->Prop):Prop:=match S.giv with
 | true=>k (bag++ledOf mv++S.giveImm x)
 | false=>match mv with
  | []=>k bag
  | _::_=>k (bag++ledOf mv)
theorem bagK_of {S:Summ} {x:S.Res} {bag:Led} {mv:List (Nat×Nat×Obj)} {k:Led->Prop} (h:bagK S x bag mv k):∃b,k b/\∀p∈b,p∈bag++ledOf mv++S.giveImm x:=by
 unfold bagK at h
 split at h
 ·exact ⟨_,h,fun _ hp=>hp⟩
 ·split at h
  ·exact ⟨_,h,fun p hp=>iL (iL hp)⟩
  ·exact ⟨_,h,fun p hp=>iL hp⟩
def Obl (mask:Nat) (prog:Program) (w:World) (G:OblG):List (Nat×Code)->Led->Scr->Prop
 | _,bag,.done _ r finM finN mv=>∀s',Out G.s₀ s' G.mods (ledOf finM) (ledOf finN) (bag++ledOf mv)->G.R r s'
 | _,bag,.use _ S _ _ mv next=>Valid mask prog w S/\(∀p∈S.imm,p∈G.imm0\/p∈bag++ledOf mv)/\∀x N' tk' (hx:S.post x),bagK S x bag mv fun b=>Obl mask prog w G [] b (next x N' tk' hx)
 | gl,bag,.useG _ k S _ _ mv next=>Valid mask prog w S/\(∀p∈S.imm,p∈G.imm0\/p∈bag++ledOf mv)/\(∀g∈S.gneed,g∈gl)/\∀x N' tk' (hx:S.post x) (ht:tokP k tk'),bagK S x bag mv fun b=>Obl mask prog w G [] b (next x N' tk' hx ht)
 | gl,bag,.gen _ c next=>∀a,Obl mask prog w G ((a,c)::gl) bag (next a)
structure RepS (mask:Nat) (w:World) (s₀:Shared) (mods:LN) (imm0 bag:Led) (N tk:Nat) (led fr:Led) (T:BT) (m i:Nat) (s:Shared):Prop where
 size:s.heap.objs.size=N+m
 tok:s.toks=tk+i
 n0:s₀.heap.objs.size<=N
 own:∀j o,T.get j=some o->j<m/\s.heap.get? (N+j)=some o
 hled:∀p∈led,s.heap.get? p.1=some p.2/\p.1∈mods
 ledN:led.map (·.1)=mods
 modN:mods.Nodup
 modL:∀a∈mods,a<s₀.heap.objs.size/\Nat.testBit mask a=false
 hfr:∀p∈fr,s.heap.get? p.1=some p.2/\p.1<N/\s₀.heap.objs.size<=p.1
 frN:(fr.map (·.1)).Nodup
 himm:∀p∈imm0,s.heap.get? p.1=some p.2/\p.1<s₀.heap.objs.size/\p.1∉mods
 hbag:∀p∈bag,s.heap.get? p.1=some p.2/\p.1<N/\s₀.heap.objs.size<=p.1/\p.1∉fr.map (·.1)
 keep:∀b o,s₀.heap.get? b=some o->b∉mods->s.heap.get? b=some o
 base:BaseOk mask w s₀.heap
 os:s.os=s₀.os
 bare:AllBare s₀.gens->AllBare s.gens
theorem nth_mem:∀{l:Led} {i:Nat},has l i=true->nth l i∈l
 | [],_,h=>nomatch h
 | p::l,i,h=>by
  unfold has at h
  unfold nth
  cases q:Nat.beq i 0 with
  | true=>simp
  | false=>rw [q] at h;simp only;exact List.mem_cons_of_mem _ (nth_mem h)
theorem setN_keys:∀(l:Led) (i:Nat) (o:Obj),(setN l i o).map (·.1)=l.map (·.1)
 | [],_,_=>rfl
 | p::l,i,o=>by
  unfold setN
  cases q:Nat.beq i 0 with
  | true=>rfl
  | false=>simp only [List.map_cons,setN_keys l (i-1) o]
theorem setN_mem:∀{l:Led} {i:Nat} {o:Obj} {p:Nat×Obj},(l.map (·.1)).Nodup->has l i=true->p∈setN l i o->(p=((nth l i).1,o))\/(p∈l/\p.1≠(nth l i).1)
 | [],_,_,_,_,h,_=>nomatch h
 | q::l,i,o,p,hn,h,hp=>by
  unfold has at h
  unfold setN at hp
  unfold nth
  rw [List.map_cons,List.nodup_cons] at hn
  cases e:Nat.beq i 0 with
  | true=>
   rw [e] at hp
   simp only [List.mem_cons] at hp ⊢
   rcases hp with rfl | hp
   ·exact .inl rfl
   ·exact .inr ⟨.inr hp,fun z=>hn.1 (z▸List.mem_map_of_mem hp)⟩
  | false=>
   rw [e] at hp h
   simp only [List.mem_cons] at hp ⊢
   rcases hp with rfl | hp
   ·refine .inr ⟨.inl rfl,fun z=>hn.1 ?_⟩
    rw [z];exact List.mem_map_of_mem (nth_mem h)
   ·rcases setN_mem hn.2 h hp with z | ⟨z1,z2⟩
    ·exact .inl z
    ·exact .inr ⟨.inr z1,z2⟩
section
variable {led fr:Led} {T:BT} {p:Nat} {o:Obj}
theorem getP0 (e:p%3=0) (h:getP led fr T p=some o):has led (p/3)=true/\o=(nth led (p/3)).2:=by
 unfold getP at h
 rw [e] at h
 simp only at h
 split at h
 ·rename_i q;cases h;exact ⟨q,rfl⟩
 ·cases h
theorem getP1 (e:p%3=1) (h:getP led fr T p=some o):has fr (p/3)=true/\o=(nth fr (p/3)).2:=by
 unfold getP at h
 rw [e] at h
 simp only at h
 split at h
 ·rename_i q;cases h;exact ⟨q,rfl⟩
 ·cases h
theorem getP2 (e:p%3=2) (h:getP led fr T p=some o):T.get (p/3)=some o:=by
 unfold getP at h
 rw [e] at h
 exact h
end
section
variable {N:Nat} {led fr:Led} {p:Nat}
theorem keyP0 (e:p%3=0):keyP N led fr p=(nth led (p/3)).1:=by unfold keyP;rw [e];rfl
theorem keyP1 (e:p%3=1):keyP N led fr p=(nth fr (p/3)).1:=by unfold keyP;rw [e];rfl
theorem keyP2 (e:p%3=2):keyP N led fr p=N+p/3:=by unfold keyP;rw [e];rfl
end
section
variable {x:St3} {p:Nat} {o:Obj}
theorem setP0 (e:p%3=0):setP x p o=⟨setN x.led (p/3) o,x.fr,x.T⟩:=by unfold setP;rw [e];rfl
theorem setP1 (e:p%3=1):setP x p o=⟨x.led,setN x.fr (p/3) o,x.T⟩:=by unfold setP;rw [e];rfl
theorem setP2 (e:p%3=2):setP x p o=⟨x.led,x.fr,x.T.set (p/3) fun _=>o⟩:=by unfold setP;rw [e];rfl
end
theorem mne {p q a b:Nat} (f:q%3=a) (e:p%3=b) (h:Nat.beq a b=false):q≠p:=fun z=>Nat.ne_of_beq_eq_false h (f.symm.trans ((congrArg (· %3) z).trans e))
theorem divI {p q:Nat} (e:p%3=q%3) (h:p/3=q/3):p=q:=by rw [←Nat.div_add_mod p 3,e,h,Nat.div_add_mod]
theorem mod3 (p:Nat):p%3=0\/p%3=1\/p%3=2:=by lia
section
variable {mask:Nat} {w:World} {s₀ s:Shared} {mods:LN} {imm0 bag:Led} {N tk:Nat} {led fr:Led} {T:BT} {m i:Nat}
theorem RepS.get (R:RepS mask w s₀ mods imm0 bag N tk led fr T m i s) {p:Nat} {o:Obj} (h:getP led fr T p=some o):s.heap.get? (keyP N led fr p)=some o:=by
 rcases mod3 p with e | e | e
 ·obtain ⟨h1,rfl⟩:=getP0 e h
  rw [keyP0 e];exact (R.hled _ (nth_mem h1)).1
 ·obtain ⟨h1,rfl⟩:=getP1 e h
  rw [keyP1 e];exact (R.hfr _ (nth_mem h1)).1
 ·rw [keyP2 e];exact (R.own _ _ (getP2 e h)).2
theorem RepS.lowN (R:RepS mask w s₀ mods imm0 bag N tk led fr T m i s):N<=s.heap.objs.size:=Nat.le_trans (Nat.le_add_right N m) (Nat.le_of_eq R.size.symm)
theorem RepS.low (R:RepS mask w s₀ mods imm0 bag N tk led fr T m i s):s₀.heap.objs.size<=s.heap.objs.size:=Nat.le_trans R.n0 R.lowN
theorem RepS.modLt (R:RepS mask w s₀ mods imm0 bag N tk led fr T m i s) {a:Nat} (h:a∈mods):a<s₀.heap.objs.size:=(R.modL a h).1
theorem RepS.baseNow (R:RepS mask w s₀ mods imm0 bag N tk led fr T m i s):∀a o,Nat.testBit mask a=true->(tb w).get a=some o->o.isFreed=false->s.heap.get? a=some o:=fun a o hm ht hf=>
 R.keep a o (R.base.get a o hm ht hf) fun hmem=>by have:=(R.modL a hmem).2;rw [hm] at this;cases this
theorem RepS.update (R:RepS mask w s₀ mods imm0 bag N tk led fr T m i s) {p:Nat} {o:Obj} {f:Obj->Obj} (h:getP led fr T p=some o) (hf:(f o).isFreed=false):
  RepS mask w s₀ mods imm0 bag N tk (setP ⟨led,fr,T⟩ p (f o)).led (setP ⟨led,fr,T⟩ p (f o)).fr (setP ⟨led,fr,T⟩ p (f o)).T m i {s with heap:=s.heap.update (keyP N led fr p) f}:=by
 have ho:=R.get h
 have hs:Heap.SameBut (keyP N led fr p) s.heap (s.heap.update (keyP N led fr p) f):=Heap.SameBut.update ..
 have hself:=Heap.get?_update_self f ho hf
 rcases mod3 p with e | e | e
 ·obtain ⟨hh,rfl⟩:=getP0 e h
  rw [keyP0 e] at ho hs hself ⊢
  rw [setP0 e]
  ·skip
   have hm:=(R.hled _ (nth_mem hh)).2
   have hlt:=R.modLt hm
   have hN:=R.n0
   refine ⟨by rw [hs.1];exact R.size,R.tok,R.n0,fun j o' hj=>?_,fun q hq=>?_,by rw [setN_keys];exact R.ledN,R.modN,R.modL,fun q hq=>?_,R.frN,fun q hq=>?_,fun q hq=>?_,fun b o' hb hbm=>?_,R.base,R.os,R.bare⟩
   ·have z:=R.own j o' hj
    exact ⟨z.1,(hs.2 (N+j) (neN (neq' hlt (Nat.le_trans hN (Nat.le_add_right _ _))))).trans z.2⟩
   ·rcases setN_mem (by rw [R.ledN];exact R.modN) hh hq with rfl | ⟨q1,q2⟩
    ·exact ⟨hself,hm⟩
    ·exact ⟨(hs.2 _ q2).trans (R.hled q q1).1,(R.hled q q1).2⟩
   ·have z:=R.hfr q hq
    exact ⟨(hs.2 q.1 (neN (neq' hlt z.2.2))).trans z.1,z.2⟩
   ·have z:=R.himm q hq
    exact ⟨(hs.2 q.1 fun y=>z.2.2 (y▸hm)).trans z.1,z.2⟩
   ·have z:=R.hbag q hq
    exact ⟨(hs.2 q.1 (neN (neq' hlt z.2.2.1))).trans z.1,z.2⟩
   ·exact (hs.2 b fun y=>hbm (y▸hm)).trans (R.keep b o' hb hbm)
 ·obtain ⟨hh,rfl⟩:=getP1 e h
  rw [keyP1 e] at ho hs hself ⊢
  rw [setP1 e]
  ·skip
   have hm:=R.hfr _ (nth_mem hh)
   refine ⟨by rw [hs.1];exact R.size,R.tok,R.n0,fun j o' hj=>?_,fun q hq=>?_,R.ledN,R.modN,R.modL,fun q hq=>?_,by rw [setN_keys];exact R.frN,fun q hq=>?_,fun q hq=>?_,fun b o' hb hbm=>?_,R.base,R.os,R.bare⟩
   ·have z:=R.own j o' hj
    exact ⟨z.1,(hs.2 (N+j) (neN (neq' hm.2.1 (Nat.le_add_right _ _)))).trans z.2⟩
   ·have z:=R.hled q hq
    have y:=R.modLt z.2
    exact ⟨(hs.2 q.1 (neN (neq y hm.2.2))).trans z.1,z.2⟩
   ·rcases setN_mem R.frN hh hq with rfl | ⟨q1,q2⟩
    ·exact ⟨hself,hm.2⟩
    ·exact ⟨(hs.2 _ q2).trans (R.hfr q q1).1,(R.hfr q q1).2⟩
   ·have z:=R.himm q hq
    exact ⟨(hs.2 q.1 (neN (neq z.2.1 hm.2.2))).trans z.1,z.2⟩
   ·have z:=R.hbag q hq
    exact ⟨(hs.2 q.1 fun y=>z.2.2.2 (y▸List.mem_map_of_mem (nth_mem hh))).trans z.1,z.2.1,z.2.2.1,by rw [setN_keys];exact z.2.2.2⟩
   ·have z: @LT.lt Nat _ b _:=Heap.lt_size hb
    exact (hs.2 b (neN (neq z hm.2.2))).trans (R.keep b o' hb hbm)
 ·have h:=getP2 e h
  rw [keyP2 e] at ho hs hself ⊢
  rw [setP2 e]
  have hm:=R.own _ _ h
  have hN:=R.n0
  have hL:=Nat.le_trans hN (Nat.le_add_right N (p/3))
  refine ⟨by rw [hs.1];exact R.size,R.tok,R.n0,fun j o' hj=>?_,fun q hq=>?_,R.ledN,R.modN,R.modL,fun q hq=>?_,R.frN,fun q hq=>?_,fun q hq=>?_,fun b o' hb hbm=>?_,R.base,R.os,R.bare⟩
  ·rw [BT.get_set] at hj
   by_cases hi:j=p/3
   ·subst hi
    rw [if_pos rfl,h] at hj
    cases hj
    exact ⟨hm.1,hself⟩
   ·rw [if_neg hi] at hj
    have z:=R.own j o' hj
    exact ⟨z.1,(hs.2 (N+j) (neN (fun e=>hi (Nat.add_left_cancel e)))).trans z.2⟩
  ·have z:=R.hled q hq
   have y:=R.modLt z.2
   exact ⟨(hs.2 q.1 (neN (neq y hL))).trans z.1,z.2⟩
  ·have z:=R.hfr q hq
   exact ⟨(hs.2 q.1 (neN (neq z.2.1 (Nat.le_add_right _ _)))).trans z.1,z.2⟩
  ·have z:=R.himm q hq
   exact ⟨(hs.2 q.1 (neN (neq z.2.1 hL))).trans z.1,z.2⟩
  ·have z:=R.hbag q hq
   exact ⟨(hs.2 q.1 (neN (neq z.2.1 (Nat.le_add_right _ _)))).trans z.1,z.2⟩
  ·have z: @LT.lt Nat _ b _:=Heap.lt_size hb
   exact (hs.2 b (neN (neq z hL))).trans (R.keep b o' hb hbm)
theorem RepS.alloc (R:RepS mask w s₀ mods imm0 bag N tk led fr T m i s) {o:Obj} (hf:o.isFreed=false) (hg:((T.ins m o).get m).isSome=true):
  RepS mask w s₀ mods imm0 bag N tk led fr (T.ins m o) (m+1) i {s with heap:=s.heap.push o}:=by
 have P:∀{b o'},s.heap.get? b=some o'->(s.heap.push o).get? b=some o':=fun h=>Heap.get?_push_of_some _ h
 refine ⟨by rw [Heap.size_push,R.size,Nat.add_assoc],R.tok,R.n0,fun j o' hj=>?_,fun q hq=>⟨P (R.hled q hq).1,(R.hled q hq).2⟩,R.ledN,R.modN,R.modL,fun q hq=>⟨P (R.hfr q hq).1,(R.hfr q hq).2⟩,R.frN,
  fun q hq=>⟨P (R.himm q hq).1,(R.himm q hq).2⟩,fun q hq=>⟨P (R.hbag q hq).1,(R.hbag q hq).2⟩,fun b o' hb hbm=>P (R.keep b o' hb hbm),R.base,R.os,R.bare⟩
 rw [BT.get_ins o T m hg] at hj
 by_cases hi:j=m
 ·subst hi
  rw [if_pos rfl] at hj
  cases hj
  exact ⟨Nat.lt_succ_self _,by rw [←R.size];exact Heap.get?_push_size _ hf⟩
 ·rw [if_neg hi] at hj
  have z:=R.own j o' hj
  exact ⟨Nat.lt_succ_of_lt z.1,P z.2⟩
end
theorem RepS.baseOk {mask:Nat} {w:World} {s₀ s:Shared} {mods:LN} {imm0 bag:Led} {N tk:Nat} {led fr:Led} {T:BT} {m i:Nat} (R:RepS mask w s₀ mods imm0 bag N tk led fr T m i s):BaseOk mask w s.heap:=by
 refine ⟨R.baseNow,fun a h=>?_,R.base.lim.at fun o ho=>R.keep _ o ho fun hm=>?_,R.base.stat⟩
 ·exact Nat.lt_of_lt_of_le (R.base.lt a h) R.low
 ·have:=(R.modL _ hm).2
  rw [R.base.stat] at this;cases this
noncomputable abbrev St3.get (x:St3) (p:Nat):Option Obj:=getP x.led x.fr x.T p
noncomputable abbrev St3.key (N:Nat) (x:St3) (p:Nat):Nat:=keyP N x.led x.fr p
theorem nth_setN:∀(l:Led) (i j:Nat) (o:Obj),nth (setN l i o) j=if j=i/\has l i=true then ((nth l i).1,o) else nth l j
 | [],i,j,o=>by simp [setN,nth,has]
 | p::l,i,j,o=>by
  unfold setN has
  by_cases hi:i=0
  ·subst hi
   by_cases hj:j=0
   ·subst hj;simp [nth]
   ·have e:Nat.beq j 0=false:=by cases j <;>first | exact absurd rfl hj | rfl
    simp [nth,e,hj]
  ·have e:Nat.beq i 0=false:=by cases i <;>first | exact absurd rfl hi | rfl
   rw [e]
   by_cases hj:j=0
   ·subst hj
    have:¬(0=i):=fun h=>hi h.symm
    simp [nth,this]
   ·have e':Nat.beq j 0=false:=by cases j <;>first | exact absurd rfl hj | rfl
    have z:=nth_setN l (i-1) (j-1) o
    have q:(j-1=i-1)↔(j=i):=⟨Nat.pred_inj (Nat.pos_of_ne_zero hj) (Nat.pos_of_ne_zero hi),congrArg (· -1)⟩
    show nth (p::setN l (i-1) o) j=_
    unfold nth
    rw [e',e]
    simp only
    rw [z];simp only [q]
theorem has_setN:∀(l:Led) (i j:Nat) (o:Obj),has (setN l i o) j=has l j
 | [],_,_,_=>rfl
 | p::l,i,j,o=>by
  unfold setN
  cases Nat.beq i 0 with
  | true=>rfl
  | false=>simp only [has,has_setN l (i-1) (j-1) o]
theorem nth_key_setN (l:Led) (i j:Nat) (o:Obj):(nth (setN l i o) j).1=(nth l j).1:=by
 rw [nth_setN]
 split
 ·rename_i h;rw [h.1]
 ·rfl
theorem key_setP (N:Nat) (x:St3) (p q:Nat) (o:Obj):(setP x p o).key N q=x.key N q:=by
 unfold St3.key
 rcases mod3 p with e | e | e
 ·rw [setP0 e]
  rcases mod3 q with f | f | f
  ·rw [keyP0 f,keyP0 f];exact nth_key_setN ..
  ·rw [keyP1 f,keyP1 f]
  ·rw [keyP2 f,keyP2 f]
 ·rw [setP1 e]
  rcases mod3 q with f | f | f
  ·rw [keyP0 f,keyP0 f]
  ·rw [keyP1 f,keyP1 f];exact nth_key_setN ..
  ·rw [keyP2 f,keyP2 f]
 ·rw [setP2 e]
section
variable {led fr:Led} {T:BT} {p:Nat}
theorem getE0 (e:p%3=0):getP led fr T p=if has led (p/3)=true then some (nth led (p/3)).2 else none:=by
 unfold getP;rw [e];cases h:has led (p/3) <;>simp
theorem getE1 (e:p%3=1):getP led fr T p=if has fr (p/3)=true then some (nth fr (p/3)).2 else none:=by
 unfold getP;rw [e];cases h:has fr (p/3) <;>simp
theorem getE2 (e:p%3=2):getP led fr T p=T.get (p/3):=by
 unfold getP;rw [e];rfl
end
theorem get_setP (x:St3) (p q:Nat) (o o':Obj) (h:x.get p=some o'):(setP x p o).get q=if q=p then some o else x.get q:=by
 unfold St3.get at h ⊢
 rcases mod3 p with e | e | e
 ·rw [setP0 e]
  obtain ⟨hh,_⟩:=getP0 e h
  rcases mod3 q with f | f | f
  ·rw [getE0 f,getE0 f,has_setN,nth_setN]
   by_cases hq:q=p
   ·subst hq;simp [hh]
   ·have:¬(q/3=p/3):=fun z=>hq (divI (f.trans e.symm) z)
    simp [hq,this]
  ·have hq:q≠p:=mne f e rfl
   rw [getE1 f,getE1 f,if_neg hq]
  ·have hq:q≠p:=mne f e rfl
   rw [getE2 f,getE2 f,if_neg hq]
 ·rw [setP1 e]
  obtain ⟨hh,_⟩:=getP1 e h
  rcases mod3 q with f | f | f
  ·have hq:q≠p:=mne f e rfl
   rw [getE0 f,getE0 f,if_neg hq]
  ·rw [getE1 f,getE1 f,has_setN,nth_setN]
   by_cases hq:q=p
   ·subst hq;simp [hh]
   ·have:¬(q/3=p/3):=fun z=>hq (divI (f.trans e.symm) z)
    simp [hq,this]
  ·have hq:q≠p:=mne f e rfl
   rw [getE2 f,getE2 f,if_neg hq]
 ·rw [setP2 e]
  have hh:=getP2 e h
  rcases mod3 q with f | f | f
  ·have hq:q≠p:=mne f e rfl
   rw [getE0 f,getE0 f,if_neg hq]
  ·have hq:q≠p:=mne f e rfl
   rw [getE1 f,getE1 f,if_neg hq]
  ·rw [getE2 f,getE2 f,BT.get_set]
   by_cases hq:q=p
   ·subst hq;simp [hh]
   ·have:¬(q/3=p/3):=fun z=>hq (divI (f.trans e.symm) z)
    simp [hq,this]
def Meet (N:Nat) (x:St3):LN->Led->Prop
 | p::ps,q::l=>(x.get p=some q.2/\x.key N p=q.1)/\Meet N x ps l
 | [],[]=>True
 | _,_=>False
theorem meet_of {N:Nat} {x:St3} {k:Prop}:∀{ps:LN} {l:Led},matchN N x ps l k->Meet N x ps l/\k
 | [],[],h=>⟨trivial,h⟩
 | [],_::_,h=>nomatch h
 | _::_,[],h=>nomatch h
 | p::ps,q::l,h=>by
  unfold matchN at h
  split at h
  ·rename_i o e
   have z:=meet_of h.2.2
   exact ⟨⟨⟨by rw [←h.2.1];exact e,h.1⟩,z.1⟩,z.2⟩
  ·cases h
theorem Meet.mem {N:Nat} {x:St3}:∀{ps:LN} {l:Led},Meet N x ps l->∀q∈l,∃p∈ps,x.get p=some q.2/\x.key N p=q.1
 | [],[],_,_,hq=>nomatch hq
 | [],_::_,h,_,_=>nomatch h
 | _::_,[],h,_,_=>nomatch h
 | p::ps,q::l,h,q',hq=>by
  rcases iC hq with rfl | hq
  ·exact ⟨p,.head _,h.1⟩
  ·obtain ⟨p',a,b⟩:=Meet.mem h.2 q' hq
   exact ⟨p',.tail _ a,b⟩
theorem Meet.pos {N:Nat} {x:St3}:∀{ps:LN} {l:Led},Meet N x ps l->∀p∈ps,∃q∈l,x.get p=some q.2/\x.key N p=q.1
 | [],[],_,_,hp=>nomatch hp
 | [],_::_,h,_,_=>nomatch h
 | _::_,[],h,_,_=>nomatch h
 | p::ps,q::l,h,p',hp=>by
  rcases iC hp with rfl | hp
  ·exact ⟨q,.head _,h.1⟩
  ·obtain ⟨q',a,b⟩:=Meet.pos h.2 p' hp
   exact ⟨q',.tail _ a,b⟩
theorem notIn_of {p:Nat}:∀{l:LN},notIn p l=true->p∉l
 | [],_=>fun h=>nomatch h
 | q::l,h=>by
  unfold notIn at h
  split at h
  ·cases h
  ·rename_i e
   intro hm
   rcases iC hm with rfl | hm
   ·rw [Nat.beq_refl] at e;cases e
   ·exact notIn_of h hm
theorem apart_of:∀{l:LN},apartB l=true->l.Nodup
 | [],_=>List.nodup_nil
 | p::l,h=>by
  unfold apartB at h
  split at h
  ·rename_i e;exact List.nodup_cons.mpr ⟨notIn_of e,apart_of h⟩
  ·cases h
theorem fresh_of:∀{l:LN},freshB l=true->∀p∈l,p%3≠0
 | [],_,_,hp=>nomatch hp
 | p::l,h,q,hq=>by
  unfold freshB at h
  split at h
  ·cases h
  ·rename_i e
   rcases iC hq with rfl | hq
   ·intro z;rw [z] at e;cases e
   ·exact fresh_of h q hq
theorem key_setAll (N:Nat):∀(at_:LN) (os:List Obj) (x:St3) (q:Nat),(setAll x at_ os).key N q=x.key N q
 | [],_,_,_=>by unfold setAll;rfl
 | _::_,[],_,_=>by unfold setAll;rfl
 | p::ps,o::os,x,q=>by unfold setAll;rw [key_setAll N ps os,key_setP]
theorem get_setAll_not:∀(at_:LN) (os:List Obj) (x:St3) (q:Nat),(∀p∈at_,∃o,x.get p=some o)->q∉at_->(setAll x at_ os).get q=x.get q
 | [],_,_,_,_,_=>by unfold setAll;rfl
 | _::_,[],_,_,_,_=>by unfold setAll;rfl
 | p::ps,o::os,x,q,h,hq=>by
  unfold setAll
  obtain ⟨o',ho'⟩:=h p (.head _)
  rw [get_setAll_not ps os _ q (fun p' hp'=>by
   rw [get_setP x p p' o o' ho']
   split
   ·exact ⟨_,rfl⟩
   ·exact h p' (.tail _ hp')) (fun z=>hq (.tail _ z)),get_setP x p q o o' ho',if_neg (fun z:q=p=>hq (by rw [z];exact .head _))]
theorem get_setAll_mem {N:Nat}:∀(at_:LN) (l:Led) (os:List Obj) (x:St3),Meet N x at_ l->at_.Nodup->∀q∈at_.take os.length,∃o,(setAll x at_ os).get q=some o/\(x.key N q,o)∈rezip l os
 | [],_,os,_,_,_,_,hq=>by simp at hq
 | _::_,[],_,_,h,_,_,_=>nomatch h
 | _::_,_::_,[],_,_,_,_,hq=>by simp at hq
 | p::ps,q₀::l,o::os,x,h,hn,q,hq=>by
  have hq:q∈p::ps.take os.length:=hq
  have hn':=List.nodup_cons.mp hn
  have g:=fun p'=>get_setP x p p' o q₀.2 h.1.1
  unfold setAll rezip
  rcases iC hq with rfl | hq
  ·refine ⟨o,?_,?_⟩
   ·rw [get_setAll_not ps os _ q (fun p' hp'=>by
     rw [g p']
     split
     ·exact ⟨_,rfl⟩
     ·obtain ⟨q',_,a,_⟩:=Meet.pos h.2 p' hp';exact ⟨_,a⟩) hn'.1,g q,if_pos rfl]
   ·rw [h.1.2];exact .head _
  ·have hM:Meet N (setP x p o) ps l:=by
    have:∀(ps:LN) (l:Led),p∉ps->Meet N x ps l->Meet N (setP x p o) ps l:=by
     intro ps
     induction ps with
     | nil=>intro l _ h;cases l <;>first | trivial | cases h
     | cons p' ps ih=>
      intro l hp h
      cases l with
      | nil=>cases h
      | cons q' l=>exact ⟨⟨by rw [g p',if_neg (fun z:p'=p=>hp (by rw [z];exact .head _))];exact h.1.1,by rw [key_setP];exact h.1.2⟩,ih l (fun z=>hp (.tail _ z)) h.2⟩
    exact this ps l hn'.1 h.2
   obtain ⟨o',a,b⟩:=get_setAll_mem ps l os (setP x p o) hM hn'.2 q hq
   rw [key_setP] at b
   exact ⟨o',a,.tail _ b⟩
theorem goneB_of:∀{ps:LN} {os:List Obj} {keep:LN},goneB ps os keep=true->∀p∈ps.drop os.length,p%3≠0/\p∉keep
 | [],os,_,_,p,hp=>by simp at hp
 | _::ps,_::os,keep,h,p,hp=>goneB_of (ps:=ps) (os:=os) h p hp
 | q::ps,[],keep,h,p,hp=>by
  unfold goneB at h
  split at h
  ·cases h
  ·rename_i e
   split at h
   ·rename_i e2
    have hp:p∈q::ps:=hp
    rcases iC hp with rfl | hp
    ·exact ⟨fun z=>(by rw [z] at e;cases e),notIn_of e2⟩
    ·exact goneB_of (ps:=ps) (os:=[]) h p hp
   ·cases h
theorem take_of {N:Nat} {x:St3}:∀{ps:LN} {r:Led},takeP N x ps=some r->(∀q∈r,∃p∈ps,x.get p=some q.2/\x.key N p=q.1)/\r.map (·.1)=ps.map (x.key N)
 | [],r,h=>by cases h;exact ⟨fun _ hq=>(nomatch hq),rfl⟩
 | p::ps,r,h=>by
  unfold takeP at h
  split at h
  ·rename_i o e
   split at h
   ·rename_i r' e'
    cases h
    obtain ⟨a,b⟩:=take_of e'
    refine ⟨fun q hq=>?_,by simp only [List.map_cons,b]⟩
    rcases iC hq with rfl | hq
    ·exact ⟨p,.head _,e,rfl⟩
    ·obtain ⟨p',c,d⟩:=a q hq
     exact ⟨p',.tail _ c,d⟩
   ·cases h
  ·cases h
section
variable {mask:Nat} {w:World} {s₀ s:Shared} {mods:LN} {imm0 bag:Led} {N tk:Nat} {led fr:Led} {T:BT} {m i:Nat}
theorem idx_of_mem:∀{l:Led} {p:Nat×Obj},p∈l->∃j,has l j=true/\nth l j=p
 | [],_,h=>nomatch h
 | q::l,p,h=>by
  rcases iC h with rfl | h
  ·exact ⟨0,rfl,rfl⟩
  ·obtain ⟨j,a,b⟩:=idx_of_mem h
   exact ⟨j+1,a,b⟩
theorem nth_inj:∀{l:Led} {i j:Nat},(l.map (·.1)).Nodup->has l i=true->has l j=true->(nth l i).1=(nth l j).1->i=j
 | [],_,_,_,h,_,_=>nomatch h
 | p::l,i,j,hn,hi,hj,e=>by
  rw [List.map_cons,List.nodup_cons] at hn
  match i,j with
  | 0,0=>rfl
  | 0,j+1=>exact absurd (show p.1∈l.map (·.1) from (show p.1=(nth l j).1 from e)▸List.mem_map_of_mem (nth_mem (show has l j=true from hj))) hn.1
  | i+1,0=>exact absurd (show p.1∈l.map (·.1) from (show (nth l i).1=p.1 from e)▸List.mem_map_of_mem (nth_mem (show has l i=true from hi))) hn.1
  | i+1,j+1=>exact congrArg (· +1) (nth_inj hn.2 (show has l i=true from hi) (show has l j=true from hj) e)
theorem RepS.kinds (R:RepS mask w s₀ mods imm0 bag N tk led fr T m i s) {p:Nat} {o:Obj} (h:getP led fr T p=some o):
  (p%3=0/\keyP N led fr p∈mods/\keyP N led fr p<s₀.heap.objs.size)\/(p%3=1/\s₀.heap.objs.size<=keyP N led fr p/\keyP N led fr p<N/\keyP N led fr p∈fr.map (·.1))\/
   (p%3=2/\N<=keyP N led fr p/\keyP N led fr p<N+m):=by
 rcases mod3 p with e | e | e
 ·obtain ⟨hh,_⟩:=getP0 e h
  rw [keyP0 e]
  have:=R.hled _ (nth_mem hh)
  exact .inl ⟨e,this.2,R.modLt this.2⟩
 ·obtain ⟨hh,_⟩:=getP1 e h
  rw [keyP1 e]
  have:=R.hfr _ (nth_mem hh)
  exact .inr (.inl ⟨e,this.2.2,this.2.1,List.mem_map_of_mem (nth_mem hh)⟩)
 ·have:=(R.own _ _ (getP2 e h)).1
  rw [keyP2 e]
  exact .inr (.inr ⟨e,Nat.le_add_right _ _,Nat.add_lt_add_left this N⟩)
theorem kinds_eq {p q K a b:Nat} {X Y X' Y' E F:Prop} (h:a<=b) (k1:(p%3=0/\X/\K<a)\/(p%3=1/\a<=K/\K<b/\Y)\/(p%3=2/\b<=K/\E)) (k2:(q%3=0/\X'/\K<a)\/(q%3=1/\a<=K/\K<b/\Y')\/(q%3=2/\b<=K/\F)):p%3=q%3:=by
 rcases k1 with u | u | u <;>rcases k2 with v | v | v
 ·exact u.1.trans v.1.symm
 ·exact (Nat.not_le_of_lt u.2.2 v.2.1).elim
 ·exact (Nat.not_le_of_lt u.2.2 (Nat.le_trans h v.2.1)).elim
 ·exact (Nat.not_le_of_lt v.2.2 u.2.1).elim
 ·exact u.1.trans v.1.symm
 ·exact (Nat.not_le_of_lt u.2.2.1 v.2.1).elim
 ·exact (Nat.not_le_of_lt v.2.2 (Nat.le_trans h u.2.1)).elim
 ·exact (Nat.not_le_of_lt v.2.2.1 u.2.1).elim
 ·exact u.1.trans v.1.symm
theorem RepS.key_inj (R:RepS mask w s₀ mods imm0 bag N tk led fr T m i s) {p q:Nat} {o o':Obj} (hp:getP led fr T p=some o) (hq:getP led fr T q=some o') (e:keyP N led fr p=keyP N led fr q):p=q:=by
 have k1:=R.kinds hp
 rw [e] at k1
 have n:=kinds_eq R.n0 k1 (R.kinds hq)
 refine divI n ?_
 rcases mod3 p with a | a | a
 ·have b:=n.symm.trans a
  rw [keyP0 a,keyP0 b] at e
  exact nth_inj (by rw [R.ledN];exact R.modN) (getP0 a hp).1 (getP0 b hq).1 e
 ·have b:=n.symm.trans a
  rw [keyP1 a,keyP1 b] at e
  exact nth_inj R.frN (getP1 a hp).1 (getP1 b hq).1 e
 ·rw [keyP2 a,keyP2 (n.symm.trans a)] at e
  exact Nat.add_left_cancel e
theorem RepS.keyLt (R:RepS mask w s₀ mods imm0 bag N tk led fr T m i s) {p:Nat} {o:Obj} (h:getP led fr T p=some o):keyP N led fr p<s.heap.objs.size:=by
 rcases R.kinds h with k | k | k
 ·exact Nat.lt_of_lt_of_le k.2.2 R.low
 ·exact Nat.lt_of_lt_of_le k.2.2.1 R.lowN
 ·exact Nat.lt_of_lt_of_le k.2.2 (Nat.le_of_eq R.size.symm)
structure UseOk (mask:Nat) (w:World) (s₀:Shared) (mods:LN) (imm0 bag:Led) (N tk:Nat) (led fr:Led) (T:BT) (m i:Nat) (s:Shared) (S:Summ) (at_ keep:LN) (mv:List (Nat×Nat×Obj)):Prop where
 rep:RepS mask w s₀ mods imm0 bag N tk led fr T m i s
 need:Meet N ⟨led,fr,T⟩ at_ S.need
 mvOk:Meet N ⟨led,fr,T⟩ (posOf mv) (ledOf mv)
 post:postB at_ keep (posOf mv)=true
theorem postB_of {at_ keep mvp:LN} (h:postB at_ keep mvp=true):at_.Nodup/\(mvp++keep).Nodup/\(mvp++at_).Nodup/\∀p∈mvp++keep,p%3≠0:=by
 unfold postB at h
 split at h
 ·rename_i h1
  split at h
  ·rename_i h2
   split at h
   ·rename_i h3
    split at h
    ·rename_i h4;exact ⟨apart_of h1,apart_of h2,apart_of h3,fresh_of h4⟩
    ·cases h
   ·cases h
  ·cases h
 ·cases h
variable {S:Summ} {at_ keep:LN} {mv:List (Nat×Nat×Obj)}
theorem UseOk.needKey (U:UseOk mask w s₀ mods imm0 bag N tk led fr T m i s S at_ keep mv) {a:Nat} (h:a∈S.need.map (·.1)):∃p∈at_,(∃o,getP led fr T p=some o)/\keyP N led fr p=a:=by
 obtain ⟨q,hq,rfl⟩:=List.mem_map.mp h
 obtain ⟨p,hp,g,k⟩:=U.need.mem q hq
 exact ⟨p,hp,⟨_,g⟩,k⟩
theorem UseOk.notNeed (U:UseOk mask w s₀ mods imm0 bag N tk led fr T m i s S at_ keep mv) {a:Nat} (h0:a∉mods) (h1:a<N) (h2:a∉fr.map (·.1)):a∉S.need.map (·.1):=fun h=>by
 obtain ⟨p,_,⟨o,g⟩,k⟩:=U.needKey h
 rcases U.rep.kinds g with z | z | z
 ·rw [k] at z;exact h0 z.2.1
 ·rw [k] at z;exact h2 z.2.2.2
 ·rw [k] at z;exact Nat.not_le_of_lt h1 z.2.1
theorem UseOk.oldNot (U:UseOk mask w s₀ mods imm0 bag N tk led fr T m i s S at_ keep mv) {a:Nat} (h0:a∉mods) (h1:a<s₀.heap.objs.size):a∉S.need.map (·.1):=
 U.notNeed h0 (Nat.lt_of_lt_of_le h1 U.rep.n0) fun h=>by
  obtain ⟨q,hq,rfl⟩:=List.mem_map.mp h
  exact Nat.not_le_of_lt h1 (U.rep.hfr q hq).2.2
theorem UseOk.bagNot (U:UseOk mask w s₀ mods imm0 bag N tk led fr T m i s S at_ keep mv) {q:Nat×Obj} (h:q∈bag):q.1∉S.need.map (·.1):=by
 have z:=U.rep.hbag q h
 exact U.notNeed (fun hm=>Nat.not_le_of_lt (U.rep.modLt hm) z.2.2.1) z.2.1 z.2.2.2
theorem UseOk.mvAt (U:UseOk mask w s₀ mods imm0 bag N tk led fr T m i s S at_ keep mv) {q:Nat×Obj} (h:q∈ledOf mv):∃p∈posOf mv,getP led fr T p=some q.2/\keyP N led fr p=q.1:=U.mvOk.mem q h
theorem UseOk.mvNot (U:UseOk mask w s₀ mods imm0 bag N tk led fr T m i s S at_ keep mv) {q:Nat×Obj} (h:q∈ledOf mv):q.1∉S.need.map (·.1):=fun hn=>by
 obtain ⟨p,hp,g,k⟩:=U.mvAt h
 obtain ⟨p',hp',⟨o,g'⟩,k'⟩:=U.needKey hn
 have e:=U.rep.key_inj g g' (k.trans k'.symm)
 subst e
 exact (List.nodup_append.mp (postB_of U.post).2.2.1).2.2 p hp p hp' rfl
theorem UseOk.mvNew (U:UseOk mask w s₀ mods imm0 bag N tk led fr T m i s S at_ keep mv) {q:Nat×Obj} (h:q∈ledOf mv):s.heap.get? q.1=some q.2/\s₀.heap.objs.size<=q.1/\q.1<s.heap.objs.size:=by
 obtain ⟨p,hp,g,k⟩:=U.mvAt h
 have hf:=(postB_of U.post).2.2.2 p (iL hp)
 have hN:=U.rep.n0
 refine ⟨k▸U.rep.get g,?_,k▸U.rep.keyLt g⟩
 rcases U.rep.kinds g with z | z | z
 ·exact absurd z.1 hf
 ·rw [k] at z;exact z.2.1
 ·rw [k] at z;exact Nat.le_trans hN z.2.1
theorem needNodup {N:Nat} {x:St3} (inj:∀{p q:Nat} {o o':Obj},x.get p=some o->x.get q=some o'->x.key N p=x.key N q->p=q):∀{ps:LN} {l:Led},Meet N x ps l->ps.Nodup->(l.map (·.1)).Nodup
 | [],[],_,_=>List.nodup_nil
 | [],_::_,h,_=>nomatch h
 | _::_,[],h,_=>nomatch h
 | p::ps,q::l,h,hn=>by
  rw [List.map_cons]
  have hn':=List.nodup_cons.mp hn
  refine List.nodup_cons.mpr ⟨fun hm=>?_,needNodup inj h.2 hn'.2⟩
  obtain ⟨q',hq',e⟩:=List.mem_map.mp hm
  obtain ⟨p',hp',g,k⟩:=Meet.mem h.2 q' hq'
  have:=inj h.1.1 g (by rw [h.1.2,k];exact e.symm)
  exact hn'.1 (this▸hp')
theorem UseOk.nodup (U:UseOk mask w s₀ mods imm0 bag N tk led fr T m i s S at_ keep mv):(S.need.map (·.1)).Nodup:=
 needNodup (fun a b c=>U.rep.key_inj a b c) U.need (postB_of U.post).1
theorem UseOk.needIs (U:UseOk mask w s₀ mods imm0 bag N tk led fr T m i s S at_ keep mv):∀p∈S.need,s.heap.get? p.1=some p.2:=fun q hq=>by
 obtain ⟨p,_,g,k⟩:=U.need.mem q hq
 exact k▸U.rep.get g
theorem UseOk.needMask (U:UseOk mask w s₀ mods imm0 bag N tk led fr T m i s S at_ keep mv):∀p∈S.need,Nat.testBit mask p.1=false:=fun q hq=>by
 obtain ⟨p,_,g,k⟩:=U.need.mem q hq
 have k:keyP N led fr p=q.1:=k
 have hN:=U.rep.n0
 rcases U.rep.kinds g with z | z | z
 ·rw [k] at z;exact (U.rep.modL _ z.2.1).2
 all_goals
  cases h:Nat.testBit mask q.1 with
  | false=>rfl
  | true=>rw [k] at z;exact (Nat.not_le_of_lt (U.rep.base.lt _ h) (by first | exact z.2.1 | exact Nat.le_trans hN z.2.1)).elim
theorem UseOk.immIs (U:UseOk mask w s₀ mods imm0 bag N tk led fr T m i s S at_ keep mv) (h:∀p∈S.imm,p∈imm0\/p∈bag++ledOf mv):∀p∈S.imm,s.heap.get? p.1=some p.2/\p.1∉S.need.map (·.1):=fun q hq=>by
 rcases h q hq with a | a
 ·have z:=U.rep.himm q a
  exact ⟨z.1,U.oldNot z.2.2 z.2.1⟩
 ·rcases iA a with a | a
  ·exact ⟨(U.rep.hbag q a).1,U.bagNot a⟩
  ·exact ⟨(U.mvNew a).1,U.mvNot a⟩
theorem UseOk.after (U:UseOk mask w s₀ mods imm0 bag N tk led fr T m i s S at_ keep mv) {upd:List Obj} {nw gi:Led} {s':Shared} (hgo:goneB at_ upd keep=true) (O:Out s s' (S.need.map (·.1)) (rezip S.need upd) nw gi)
  {fr':Led} (hk:takeP N (setAll ⟨led,fr,T⟩ at_ upd) keep=some fr'):
  RepS mask w s₀ mods imm0 (bag++ledOf mv++gi) s'.heap.objs.size s'.toks (setAll ⟨led,fr,T⟩ at_ upd).led (fr'++nw) .nil 0 0 s':=by
 obtain ⟨n1,n2,n3,hf⟩:=postB_of U.post
 have hN:=U.rep.n0
 have hsz:=U.rep.size
 have hO:=O.size
 have R:=U.rep
 have key:∀p,(setAll ⟨led,fr,T⟩ at_ upd).key N p=keyP N led fr p:=fun p=>key_setAll N at_ upd ⟨led,fr,T⟩ p
 have ex:∀p∈at_,∃o,(⟨led,fr,T⟩:St3).get p=some o:=fun p hp=>by
  obtain ⟨q,_,g,_⟩:=U.need.pos p hp
  exact ⟨_,g⟩
 -- each position's object stands in the new heap,and the position stood before
 have now:∀p o,(p%3=0\/p∈keep)->(setAll ⟨led,fr,T⟩ at_ upd).get p=some o->s'.heap.get? (keyP N led fr p)=some o/\∃o',getP led fr T p=some o':=by
  intro p o hgp g
  by_cases hp:p∈at_
  ·have hpt:p∈at_.take upd.length:=by
    rw [←List.take_append_drop upd.length at_] at hp
    rcases iA hp with z | z
    ·exact z
    ·have y:=goneB_of hgo p z
     rcases hgp with q | q
     ·exact absurd q y.1
     ·exact absurd q y.2
   obtain ⟨o₁,a,b⟩:=get_setAll_mem at_ S.need upd ⟨led,fr,T⟩ U.need n1 p hpt
   rw [a] at g
   cases g
   exact ⟨O.gv _ b,ex p hp⟩
  ·rw [get_setAll_not at_ upd ⟨led,fr,T⟩ p ex hp] at g
   refine ⟨O.keep _ _ (R.get g) fun hm=>?_,_,g⟩
   obtain ⟨p',hp',⟨o',g'⟩,k'⟩:=U.needKey hm
   exact hp ((R.key_inj g g' k'.symm)▸hp')
 obtain ⟨tk1,tk2⟩:=take_of hk
 have frPos:∀q∈fr',∃p∈keep,(∃o',getP led fr T p=some o')/\keyP N led fr p=q.1/\s'.heap.get? q.1=some q.2:=by
  intro q hq
  obtain ⟨p,hp,g,k⟩:=tk1 q hq
  rw [key] at k
  have z:=now p _ (.inr hp) g
  exact ⟨p,hp,z.2,k,k▸z.1⟩
 have frLow:∀q∈fr',s₀.heap.objs.size<=q.1/\q.1<s.heap.objs.size:=by
  intro q hq
  obtain ⟨p,hp,⟨o',g⟩,k,_⟩:=frPos q hq
  refine ⟨?_,k▸R.keyLt g⟩
  rcases R.kinds g with z | z | z
  ·exact absurd z.1 (hf p (iR hp))
  ·rw [k] at z;exact z.2.1
  ·rw [k] at z;exact Nat.le_trans hN z.2.1
 refine ⟨rfl,rfl,Nat.le_trans R.low hO,fun _ _ h=>(nomatch h),fun q hq=>?_,?_,R.modN,R.modL,fun q hq=>?_,?_,fun q hq=>?_,fun q hq=>?_,fun b o hb hbm=>?_,R.base,O.os.trans R.os,fun h=>O.bare (R.bare h)⟩
 ·-- led
  obtain ⟨j,hj,e⟩:=idx_of_mem hq
  have e0:(3*j)%3=0:=Nat.mul_mod_right 3 j
  have e1:3*j/3=j:=Nat.mul_div_cancel_left j (Nat.succ_pos 2)
  have g:(setAll ⟨led,fr,T⟩ at_ upd).get (3*j)=some q.2:=by
   rw [St3.get,getE0 e0,e1,if_pos hj,e]
  have z:=now _ _ (.inl e0) g
  have k:keyP N led fr (3*j)=q.1:=by
   rw [←key,St3.key,keyP0 e0,e1,e]
  obtain ⟨o',g'⟩:=z.2
  refine ⟨k▸z.1,?_⟩
  rcases R.kinds g' with y | y | y
  ·rw [k] at y;exact y.2.1
  ·exact (mne e0 y.1 rfl rfl).elim
  ·exact (mne e0 y.1 rfl rfl).elim
 ·-- keys of led
  have:∀(ps:LN) (os:List Obj) (x:St3),(setAll x ps os).led.map (·.1)=x.led.map (·.1):=by
   intro ps
   induction ps with
   | nil=>intro os x;unfold setAll;rfl
   | cons p ps ih=>
    intro os x
    cases os with
    | nil=>unfold setAll;rfl
    | cons o os=>
     unfold setAll
     rw [ih]
     rcases mod3 p with e | e | e
     ·rw [setP0 e];exact setN_keys ..
     ·rw [setP1 e]
     ·rw [setP2 e]
  rw [this];exact R.ledN
 ·-- fr
  rcases iA hq with h | h
  ·obtain ⟨p,hp,⟨o',g⟩,k,z⟩:=frPos q h
   have y:=frLow q h
   exact ⟨z,Nat.lt_of_lt_of_le y.2 hO,y.1⟩
  ·have z:=O.nw q h
   exact ⟨z.1,Heap.lt_size z.1,Nat.le_trans R.low z.2⟩
 ·-- keys of fr
  rw [List.map_append]
  refine List.nodup_append.mpr ⟨?_,O.nodup,fun a ha b hb e=>?_⟩
  ·rw [tk2]
   have:∀(ps:LN),ps.Nodup->(∀p∈ps,∃o,getP led fr T p=some o)->(ps.map ((setAll ⟨led,fr,T⟩ at_ upd).key N)).Nodup:=by
    intro ps
    induction ps with
    | nil=>intro _ _;exact List.nodup_nil
    | cons p ps ih=>
     intro h1 h2
     rw [List.map_cons]
     have h1':=List.nodup_cons.mp h1
     refine List.nodup_cons.mpr ⟨fun hm=>?_,ih h1'.2 fun p' hp'=>h2 p' (.tail _ hp')⟩
     obtain ⟨p',hp',e⟩:=List.mem_map.mp hm
     rw [key,key] at e
     obtain ⟨o,g⟩:=h2 p (.head _)
     obtain ⟨o',g'⟩:=h2 p' (.tail _ hp')
     exact h1'.1 ((R.key_inj g' g e)▸hp')
   refine this keep (List.nodup_append.mp n2).2.1 fun p hp=>?_
   have:∀(ps:LN) (r:Led),takeP N (setAll ⟨led,fr,T⟩ at_ upd) ps=some r->∀p∈ps,∃o,(setAll ⟨led,fr,T⟩ at_ upd).get p=some o:=by
    intro ps
    induction ps with
    | nil=>intro _ _ _ hp;cases hp
    | cons p ps ih=>
     intro r h p' hp'
     unfold takeP at h
     split at h
     ·rename_i o e
      split at h
      ·rename_i r' e'
       rcases iC hp' with rfl | hp'
       ·exact ⟨o,e⟩
       ·exact ih r' e' p' hp'
      ·cases h
     ·cases h
   obtain ⟨o,g⟩:=this keep fr' hk p hp
   exact (now p o (.inr hp) g).2
  ·obtain ⟨q,hq,rfl⟩:=List.mem_map.mp ha
   obtain ⟨q',hq',e'⟩:=List.mem_map.mp hb
   have y:=(frLow q hq).2
   have z:=(O.nw q' hq').2
   have:q'.1=q.1:=e'.trans e.symm
   exact Nat.not_le_of_lt y (Nat.le_trans z (Nat.le_of_eq this))
 ·-- imm
  have z:=R.himm q hq
  exact ⟨O.keep _ _ z.1 (U.oldNot z.2.2 z.2.1),z.2⟩
 ·-- bag
  have notFr:∀a,a<s.heap.objs.size->(∀p∈keep,(∃o',getP led fr T p=some o')->keyP N led fr p≠a)->a∉(fr'++nw).map (·.1):=by
   intro a ha h hm
   rw [List.map_append] at hm
   rcases iA hm with hm | hm
   ·obtain ⟨q',hq',e⟩:=List.mem_map.mp hm
    obtain ⟨p,hp,g,k,_⟩:=frPos q' hq'
    exact h p hp g (k.trans e)
   ·obtain ⟨q',hq',e⟩:=List.mem_map.mp hm
    exact Nat.not_le_of_lt ha (Nat.le_trans (O.nw q' hq').2 (Nat.le_of_eq e))
  rcases iA hq with h | h
  ·rcases iA h with h | h
   ·have z:=R.hbag q h
    have zl:=Nat.lt_of_lt_of_le z.2.1 R.lowN
    refine ⟨O.keep _ _ z.1 (U.bagNot h),Nat.lt_of_lt_of_le zl hO,z.2.2.1,notFr _ zl fun p hp ⟨o',g⟩ k=>?_⟩
    rcases R.kinds g with y | y | y
    ·exact hf p (iR hp) y.1
    ·rw [k] at y;exact z.2.2.2 y.2.2.2
    ·rw [k] at y;exact Nat.not_le_of_lt z.2.1 y.2.1
   ·have z:=U.mvNew h
    refine ⟨O.keep _ _ z.1 (U.mvNot h),Nat.lt_of_lt_of_le z.2.2 hO,z.2.1,notFr _ z.2.2 fun p hp ⟨o',g⟩ k=>?_⟩
    obtain ⟨p',hp',g',k'⟩:=U.mvAt h
    have e:=R.key_inj g g' (k.trans k'.symm)
    subst e
    exact (List.nodup_append.mp n2).2.2 p hp' p hp rfl
  ·have z:=O.gi q h
   refine ⟨z.1,Heap.lt_size z.1,Nat.le_trans R.low z.2.1,fun hm=>?_⟩
   rw [List.map_append] at hm
   rcases iA hm with hm | hm
   ·obtain ⟨q',hq',e⟩:=List.mem_map.mp hm
    have y:=(frLow q' hq').2
    have e:q'.1=q.1:=e
    exact Nat.not_le_of_lt y (Nat.le_trans z.2.1 (Nat.le_of_eq e.symm))
   ·exact z.2.2 hm
 ·-- keep
  have hb': @LT.lt Nat _ b _:=Heap.lt_size hb
  exact O.keep b o (R.keep b o hb hbm) (U.oldNot hbm hb')
theorem RepS.out (R:RepS mask w s₀ mods imm0 bag N tk led fr T m i s) {finM finN mv:List (Nat×Nat×Obj)} (hp:postB (posOf finM) (posOf finN) (posOf mv)=true)
  (hM:Meet N ⟨led,fr,T⟩ (posOf finM) (ledOf finM)) (hN:Meet N ⟨led,fr,T⟩ (posOf finN) (ledOf finN)) (hmv:Meet N ⟨led,fr,T⟩ (posOf mv) (ledOf mv)):
  Out s₀ s mods (ledOf finM) (ledOf finN) (bag++ledOf mv):=by
 obtain ⟨n1,n2,n3,hf⟩:=postB_of hp
 have h0:=R.n0
 have hsz:=R.size
 have fresh:∀p o,getP led fr T p=some o->p%3≠0->s₀.heap.objs.size<=keyP N led fr p:=fun p o g hne=>by
  rcases R.kinds g with z | z | z
  ·exact absurd z.1 hne
  ·exact z.2.1
  ·exact Nat.le_trans h0 z.2.1
 refine ⟨R.keep,fun q hq=>?_,fun q hq=>?_,fun q hq=>?_,needNodup (fun a b c=>R.key_inj a b c) hN (List.nodup_append.mp n2).2.1,R.low,R.os,R.bare⟩
 ·obtain ⟨p,_,g,k⟩:=hM.mem q hq
  exact k▸R.get g
 ·obtain ⟨p,hp',g,k⟩:=hN.mem q hq
  exact ⟨k▸R.get g,k▸fresh p _ g (hf p (iR hp'))⟩
 ·have notFin:∀a,(∀p∈posOf finN,(∃o',getP led fr T p=some o')->keyP N led fr p≠a)->a∉(ledOf finN).map (·.1):=by
   intro a h hm
   obtain ⟨q',hq',e⟩:=List.mem_map.mp hm
   obtain ⟨p,hp',g,k⟩:=hN.mem q' hq'
   exact h p hp' ⟨_,g⟩ (k.trans e)
  rcases iA hq with h | h
  ·have z:=R.hbag q h
   refine ⟨z.1,z.2.2.1,notFin _ fun p hp' ⟨o',g⟩ k=>?_⟩
   rcases R.kinds g with y | y | y
   ·exact hf p (iR hp') y.1
   ·rw [k] at y;exact z.2.2.2 y.2.2.2
   ·rw [k] at y;exact Nat.not_le_of_lt z.2.1 y.2.1
  ·obtain ⟨p,hp',g,k⟩:=hmv.mem q h
   refine ⟨k▸R.get g,k▸fresh p _ g (hf p (iL hp')),notFin _ fun p' hp'' ⟨o',g'⟩ k'=>?_⟩
   have e:=R.key_inj g' g (k'.trans k.symm)
   subst e
   exact (List.nodup_append.mp n2).2.2 p' hp' p' hp'' rfl
end
section
variable {prog:Program} {w:World} {mask:Nat} {D U:Nat} {A₀:Around} {R₀:Result->Shared->Prop} {s₀:Shared} {mods:LN} {imm0:Led}
structure Ctx0 (A₀:Around) (D U:Nat) (l0:Option (List Env)):Prop where
 handled:A₀.handled=none
 depth:A₀.depth+D<recursionLimit
 units:A₀.units+U<cLine
 frames:∃l,A₀.frames=some l
 fr:∀l,l0=some l->A₀.frames=some l
def Mean (prog:Program) (w:World) (A₀:Around) (R₀:Result->Shared->Prop) (c:Code) (κ:Kont) (t:Sem Fin) (s:Shared):Prop:=
 wpOwn (model prog w) (arK A₀ κ) c t (postC prog w (arK A₀ κ) (endK prog w A₀ R₀ κ)) (postE (endK prog w A₀ R₀ κ)) s
def Sound (prog:Program) (w:World) (mask:Nat) (A₀:Around) (R₀:Result->Shared->Prop) (s₀:Shared) (mods:LN) (imm0:Led) (ih:Ty):Prop:=
 ∀c κ t led fr T m i N tk h scr s bag gl,ih c κ t led fr T m i N tk h scr->RepS mask w s₀ mods imm0 bag N tk led fr T m i s->s₀.toks<=tk->(∀g∈gl,s.gens[g.1]? =some (.fresh g.2))->Obl mask prog w ⟨R₀,s₀,mods,imm0⟩ gl bag scr->Mean prog w A₀ R₀ c κ t s
variable {ih:Ty} {ro:Led} {l0:Option (List Env)}
theorem RepS.sub {mask:Nat} {w:World} {s₀ s:Shared} {mods:LN} {imm0 bag bag':Led} {N tk:Nat} {led fr:Led} {T:BT} {m i:Nat} (h:∀p∈bag',p∈bag) (R:RepS mask w s₀ mods imm0 bag N tk led fr T m i s):RepS mask w s₀ mods imm0 bag' N tk led fr T m i s:={R with hbag:=fun p hp=>R.hbag p (h p hp)}
theorem retK_sound (IH:Sound prog w mask A₀ R₀ s₀ mods imm0 ih) {r:Result} {κ:Kont} {led fr:Led} {T:BT} {m i N tk h:Nat} {scr:Scr} {s:Shared} {bag:Led} {gl:List (Nat×Code)}
  (H:retK ih r κ led fr T m i N tk h scr) (R:RepS mask w s₀ mods imm0 bag N tk led fr T m i s) (Tk:s₀.toks<=tk) (Gl:∀g∈gl,s.gens[g.1]? =some (.fresh g.2)) (O:Obl mask prog w ⟨R₀,s₀,mods,imm0⟩ gl bag scr):endK prog w A₀ R₀ κ r s:=by
 cases κ with
 | ret c hd k κ=>exact y_ret _ _ _ _ _ _ _ _ _ _ (IH _ _ _ _ _ _ _ _ _ _ _ _ _ _ _ H R Tk Gl O)
 | base=>
  cases scr with
  | use=>cases H
  | useG=>cases H
  | gen=>cases H
  | done hh r' finM finN mv=>
   simp only [retK] at H
   split at H
   ·split at H
    ·rename_i hp
     split at H
     ·obtain ⟨hr,H⟩:=H
      obtain ⟨hM,H⟩:=meet_of H
      obtain ⟨hN,H⟩:=meet_of H
      obtain ⟨hmv,_⟩:=meet_of H
      subst hr
      exact O s (R.out hp hM hN hmv)
     ·cases H
    ·cases H
   ·cases H
section
variable {κ:Kont} {S:Summ}
theorem roomB_of (C:Ctx0 A₀ D U l0) (h:roomB κ D U S=true) (he:∀e,S.env=some e->envK κ=some e) (hf:∀l,S.fr=some l->frK l0 κ=some l):RoomOk (arK A₀ κ) S:=by
 unfold roomB at h
 split at h
 ·rename_i h1
  split at h
  ·rename_i h2
   split at h
   ·rename_i h3
    have h1:=Nat.le_of_ble_eq_true h1
    have h2:=Nat.le_of_ble_eq_true h2
    obtain ⟨l₀,hl⟩:=C.frames
    obtain ⟨l,e1,e2⟩:=envK_eq hl κ
    refine ⟨by rw [hdlK_eq C.handled,h3],by rw [depK_eq];have:=C.depth;lia,by rw [uniK_eq];have:=C.units;lia,fun e q=>?_,⟨l,e1⟩,fun l q=>frK_eq C.fr κ l (hf l q)⟩
    obtain ⟨l',y⟩:=e2 e (he e q)
    exact ⟨l',y▸e1⟩
   ·cases h
  ·cases h
 ·cases h
theorem envP_of {k:Prop} (h:envP κ S k):(∀e,S.env=some e->envK κ=some e)/\k:=by
 unfold envP at h
 split at h
 ·rename_i e;exact ⟨fun e' q=>(by rw [e] at q;cases q),h⟩
 ·rename_i e q;exact ⟨fun e' z=>(by rw [q] at z;cases z;exact h.1),h.2⟩
theorem frP_of {k:Prop} (h:frP l0 κ S k):(∀l,S.fr=some l->frK l0 κ=some l)/\k:=by
 unfold frP at h
 split at h
 ·rename_i e;exact ⟨fun e' q=>(by rw [e] at q;cases q),h⟩
 ·rename_i e q;exact ⟨fun e' z=>(by rw [q] at z;cases z;exact h.1),h.2⟩
end
theorem tokQ_of {k:ON} {n:Nat} {P:Prop} (h:tokQ k n P):P/\∀t,n<=t->tokP k t:=by
 cases k with
 | none=>exact ⟨h,fun _ _=>trivial⟩
 | some k=>exact ⟨h.2,fun t ht=>by rw [←h.1] at ht;exact ht⟩
theorem useB_sound (C:Ctx0 A₀ D U l0) (IH:Sound prog w mask A₀ R₀ s₀ mods imm0 ih) {c':Code} {κ:Kont} {S:Summ} {at_ keep:LN} {mv:List (Nat×Nat×Obj)} {P:Nat->Prop} {next:(x:S.Res)->Nat->(tk:Nat)->S.post x->P tk->Scr} {led fr:Led} {T:BT} {m i N tk:Nat} {s:Shared} {bag:Led}
  (H:useB D U l0 ih P c' κ S at_ keep mv next led fr T N) (hP:∀t,tk+i<=t->P t) (R:RepS mask w s₀ mods imm0 bag N tk led fr T m i s) (Tk:s₀.toks<=tk) (Gn:∀g∈S.gneed,s.gens[g.1]? =some (.fresh g.2)) (hv:Valid mask prog w S) (himm:∀p∈S.imm,p∈imm0\/p∈bag++ledOf mv)
  (O:∀x N' tk' (hx:S.post x) (ht:P tk'),bagK S x bag mv fun b=>Obl mask prog w ⟨R₀,s₀,mods,imm0⟩ [] b (next x N' tk' hx ht)):codeAny (model prog w) (arK A₀ κ) c' (endK prog w A₀ R₀ κ) s:=by
 unfold useB at H
 split at H
 ·rename_i hroom
  split at H
  ·rename_i hpost
   obtain ⟨hc,H⟩:=H
   obtain ⟨he,H⟩:=envP_of H
   obtain ⟨hfr,H⟩:=frP_of H
   obtain ⟨hneed,H⟩:=meet_of H
   obtain ⟨hmv,H⟩:=meet_of H
   have Us:UseOk mask w s₀ mods imm0 bag N tk led fr T m i s S at_ keep mv:=⟨R,hneed,hmv,hpost⟩
   rw [hc]
   refine PySem.codeAny_with_toks (Nat.le_refl _) (codeAny_mono (hv (arK A₀ κ) s (roomB_of C hroom he hfr) R.baseOk Us.needIs (Us.immIs himm) Us.nodup Us.needMask Gn) fun r s' hr htk=>?_)
   obtain ⟨x,hx,rfl,hl,O'⟩:=hr
   have Tk':s₀.toks<=s'.toks:=Nat.le_trans (by rw [R.tok];exact Nat.le_trans Tk (Nat.le_add_right _ _)) htk
   have Tp:=hP _ (show tk+i<=s'.toks by rw [←R.tok];exact htk)
   obtain ⟨b',hb',hsub⟩:=bagK_of (O x s'.heap.objs.size s'.toks hx Tp)
   have z:=H x s'.heap.objs.size s'.toks hx Tp
   split at z
   ·cases z
   ·rename_i hgo
    split at z
    ·rename_i fr' hk
     rw [withH_eq] at z
     exact retK_sound IH z (RepS.sub hsub (Us.after hgo O' hk)) Tk' (gl:=[]) (fun _ h=>nomatch h) hb'
    ·cases z
  ·cases H
 ·cases H
theorem entK_sound {den:Code->Sem Fin} {clT:Value->Args->Sem Fin} (hden:den=denote table) (hcl:clT=callT) (C:Ctx0 A₀ D U l0) (IH:Sound prog w mask A₀ R₀ s₀ mods imm0 ih) {c':Code} {κ:Kont} {led fr:Led} {T:BT} {m i N tk h:Nat} {scr:Scr} {s:Shared} {bag:Led} {gl:List (Nat×Code)}
  (H:entK den clT D U l0 ih c' κ led fr T m i N tk h scr) (R:RepS mask w s₀ mods imm0 bag N tk led fr T m i s) (Tk:s₀.toks<=tk) (Gl:∀g∈gl,s.gens[g.1]? =some (.fresh g.2)) (O:Obl mask prog w ⟨R₀,s₀,mods,imm0⟩ gl bag scr):codeAny (model prog w) (arK A₀ κ) c' (endK prog w A₀ R₀ κ) s:=by
 subst hden hcl
 unfold entK at H
 split at H
 ·exact y_code _ _ _ _ _ _ (IH _ _ _ _ _ _ _ _ _ _ _ _ _ _ _ H R Tk Gl O)
 ·unfold useK at H
  split at H
  ·cases H
  ·cases H
  ·rename_i hh S at_ keep mv next
   split at H
   ·rename_i hg
    exact useB_sound C IH H (fun _ _=>trivial) R Tk (by rw [hg];exact fun _ h=>nomatch h) O.1 O.2.1 fun x N' tk' hx _=>O.2.2 x N' tk' hx
   ·cases H
  ·obtain ⟨H,hk⟩:=tokQ_of H
   exact useB_sound C IH H hk R Tk (fun g hg=>Gl g (O.2.2.1 g hg)) O.1 O.2.1 O.2.2.2
 ·split at H
  ·split at H
   ·rename_i f args hd
    have hd:=Nat.le_of_ble_eq_true hd
    refine y_code _ _ _ _ _ _ (own_callT ?_ (IH _ _ _ _ _ _ _ _ _ _ _ _ _ _ _ H R Tk Gl O))
    show (arK A₀ κ).depth+_<_
    rw [depK_eq]
    have:=C.depth
    lia
   ·cases H
  ·cases H
 ·cases H
theorem withO_sound {a:Nat} {k:Obj->Rst} {led fr:Led} {T:BT} {m i N tk h:Nat} {scr:Scr} {s:Shared} {bag:Led} (hro:∀p∈ro,p∈imm0)
  (H:withO mask (tb w) ro a k led fr T m i N tk h scr) (R:RepS mask w s₀ mods imm0 bag N tk led fr T m i s):∃o h',s.heap.get? a=some o/\k o led fr T m i N tk h' scr:=by
 unfold withO at H
 split at H
 ·rw [force_eq] at H
  split at H
  ·rename_i hm
   split at H
   ·rename_i o e
    split at H
    ·rename_i hf
     exact ⟨o,_,R.baseNow a o hm e hf,H⟩
    ·cases H
   ·cases H
  ·cases H
 ·split at H
  ·split at H
   ·rename_i hh
    exact ⟨_,_,by rw [H.1];exact (R.himm _ (hro _ (nth_mem hh))).1,H.2⟩
   ·cases H
  ·split at H
   ·rename_i o e
    exact ⟨o,_,by rw [H.1];exact R.get e,H.2⟩
   ·cases H
theorem stepK_sound {den:Code->Sem Fin} {clT:Value->Args->Sem Fin} (hro:∀p∈ro,p∈imm0) (hden:den=denote table) (hcl:clT=callT) (C:Ctx0 A₀ D U l0) (IH:Sound prog w mask A₀ R₀ s₀ mods imm0 ih):
  Sound prog w mask A₀ R₀ s₀ mods imm0 (stepK den clT ⟨prog,w.params⟩ mask (tb w) ro D U l0 ih):=by
 intro c κ t led fr T m i N tk h scr s bag gl H R Tk Gl O
 have Hs:s=⟨s.heap,s.gens,s.drawn,s.toks,s.os⟩:=rfl
 cases t with
 | pure fin=>
  cases fin with
  | done f=>exact y_pure _ _ _ _ _ _ _ _ _ (y_done _ _ _ _ _ _ (retK_sound IH H R Tk Gl O))
  | again c'=>
   cases q:c'.quiet with
   | true=>
    have H:onB c'.quiet (entK den clT D U l0 ih c' κ) led fr T m i N tk h scr:=H
    rw [q] at H
    exact y_pure _ _ _ _ _ _ _ _ _ (y_again _ _ _ _ _ _ q (entK_sound hden hcl C IH H R Tk Gl O))
   | false=>
    have H:onB c'.quiet (entK den clT D U l0 ih c' κ) led fr T m i N tk h scr:=H
    rw [q] at H;exact H.elim
 | raise e=>exact y_raise _ _ _ _ _ _ _ _ _ (y_err _ _ _ (retK_sound IH H R Tk Gl O))
 | rule tag k=>exact y_skim _ _ _ _ _ _ _ _ _ 1 (IH _ _ _ _ _ _ _ _ _ _ _ _ _ _ _ H R Tk Gl O)
 | «at» q k=>exact y_skim _ _ _ _ _ _ _ _ _ 1 (IH _ _ _ _ _ _ _ _ _ _ _ _ _ _ _ H R Tk Gl O)
 | point l k=>exact y_skim _ _ _ _ _ _ _ _ _ 1 (IH _ _ _ _ _ _ _ _ _ _ _ _ _ _ _ H R Tk Gl O)
 | ask k=>exact y_skim _ _ _ _ _ _ _ _ _ 1 (IH _ _ _ _ _ _ _ _ _ _ _ _ _ _ _ H R Tk Gl O)
 | load a q k=>
  obtain ⟨o,h',ho,H⟩:=withO_sound hro H R
  exact y_load _ _ _ _ _ _ _ _ _ _ _ _ _ _ _ _ ho (IH _ _ _ _ _ _ _ _ _ _ _ _ _ _ _ H R Tk Gl O)
 | loadIfAlive a k=>
  obtain ⟨o,h',ho,H⟩:=withO_sound hro H R
  refine fun Γ p hc hΓ=>?_
  rw [Sem.wp_loadIfAlive,ho]
  exact IH _ _ _ _ _ _ _ _ _ _ _ _ _ _ _ H R Tk Gl O Γ p hc hΓ
 | alloc o k=>
  have H:allocK ih c κ o k led fr T m i N tk h scr:=H
  unfold allocK at H
  split at H
  ·cases H
  ·rename_i hf
   split at H
   ·rename_i o' e
    have D':=R.alloc hf (by rw [e];rfl)
    refine fun Γ p hc hΓ=>?_
    rw [Sem.wp_alloc,R.size]
    exact IH _ _ _ _ _ _ _ _ _ _ _ _ _ _ _ H D' Tk Gl O Γ p hc hΓ
   ·cases H
 | update a q f k=>
  have H:updK ih c κ a f k led fr T m i N tk h scr:=H
  unfold updK at H
  split at H
  ·cases H
  ·split at H
   ·rename_i o e
    split at H
    ·cases H
    ·rename_i hf
     obtain ⟨ha,H⟩:=H
     have D':=R.update e hf
     refine fun Γ p hc hΓ=>?_
     rw [Sem.wp_update]
     have hg:s.heap.get? a=some o:=by rw [ha];exact R.get e
     refine ⟨by rw [hg];rfl,?_⟩
     rw [ha]
     rcases mod3 (_-5) with e3 | e3 | e3
     ·rw [setP0 e3] at D'
      rw [e3] at H
      exact IH _ _ _ _ _ _ _ _ _ _ _ _ _ _ _ H D' Tk Gl O Γ p hc hΓ
     ·rw [setP1 e3] at D'
      rw [e3] at H
      exact IH _ _ _ _ _ _ _ _ _ _ _ _ _ _ _ H D' Tk Gl O Γ p hc hΓ
     ·rw [setP2 e3] at D'
      rw [e3] at H
      exact IH _ _ _ _ _ _ _ _ _ _ _ _ _ _ _ H D' Tk Gl O Γ p hc hΓ
   ·cases H
 | fresh k=>
  refine fun Γ p hc hΓ=>?_
  rw [Sem.wp_fresh,R.tok]
  have R':RepS mask w s₀ mods imm0 bag N tk led fr T m (i+1) {s with toks:=s.toks+1}:={R with tok:=by show s.toks+1=_;rw [R.tok,Nat.add_assoc]}
  rw [R.tok] at R'
  exact IH _ _ _ _ _ _ _ _ _ _ _ _ _ _ _ H R' Tk Gl O Γ p hc hΓ
 | handled own k=>
  cases own with
  | true=>cases H
  | false=>
   refine y_handled _ _ _ _ _ _ _ _ _ ?_
   have e:(arK A₀ κ).handled=hdlK κ:=hdlK_eq C.handled κ
   rw [e]
   exact IH _ _ _ _ _ _ _ _ _ _ _ _ _ _ _ H R Tk Gl O
 | stack k=>
  have H:stackK ih c κ k led fr T m i N tk h scr:=H
  unfold stackK at H
  split at H
  ·refine fun Γ p hc hΓ=>?_
   rw [Sem.wp]
   have z:=H p Γ.below
   subst hc
   exact IH _ _ _ _ _ _ _ _ _ _ _ _ _ _ _ z R Tk Gl O Γ p rfl hΓ
  ·cases H
 | call c' hd g l k=>
  cases q:okMark hd with
  | true=>
   have H:onB (okMark hd) (entK den clT D U l0 ih c' (.ret c hd k κ)) led fr T m i N tk h scr:=H
   rw [q] at H
   have hnb:hd≠some byPass:=by
    intro e
    subst e
    simp [okMark] at q
   exact y_call _ _ _ _ _ _ _ _ _ _ _ _ _ hnb (entK_sound (κ:=.ret c hd k κ) hden hcl C IH H R Tk Gl O)
  | false=>
   have H:onB (okMark hd) (entK den clT D U l0 ih c' (.ret c hd k κ)) led fr T m i N tk h scr:=H
   rw [q] at H;exact H.elim
 | unsupported=>cases H
 | finish=>cases H
 | register=>cases H
 | choose=>cases H
 | os=>cases H
 | newGen c₁ k=>
  have H:genK ih c κ c₁ k led fr T m i N tk h scr:=H
  unfold genK at H
  split at H
  ·split at H
   ·rename_i hh c' next
    obtain ⟨rfl,H⟩:=H
    refine fun Γ p hc hΓ=>?_
    rw [Sem.wp_newGen]
    have z:=H s.gens.size
    rw [withH_eq] at z
    have R':RepS mask w s₀ mods imm0 bag N tk led fr T m i {s with gens:=s.gens.push (.fresh c₁)}:={R with bare:=fun h=>(R.bare h).push rfl}
    refine IH _ _ _ _ _ _ _ _ _ _ _ _ _ _ _ z R' Tk (fun g hg=>?_) (O s.gens.size) Γ p hc hΓ
    rcases iC hg with rfl | hg
    ·exact Array.getElem?_push_size ..
    ·have y:=Gl g hg
     show (s.gens.push _)[g.1]? =_
     rw [Array.getElem?_push]
     have:g.1<s.gens.size:=by
      rcases Nat.lt_or_ge g.1 s.gens.size with q | q
      ·exact q
      ·rw [Array.getElem?_eq_none q] at y;cases y
     rw [if_neg (by lia)];exact y
   ·cases H
  ·cases H
 | genState=>cases H
 | resume=>cases H
 | yield=>cases H
 | fork=>cases H
 | thread=>cases H
 | await=>cases H
theorem chk_sound {den:Code->Sem Fin} {clT:Value->Args->Sem Fin} (hro:∀p∈ro,p∈imm0) (hden:den=denote table) (hcl:clT=callT) (C:Ctx0 A₀ D U l0):∀n,Sound prog w mask A₀ R₀ s₀ mods imm0 (chk den clT ⟨prog,w.params⟩ mask (tb w) ro D U l0 n)
 | 0=>fun _ _ _ _ _ _ _ _ _ _ _ _ _ _ _ H _ _ _=>by cases H
 | n+1=>stepK_sound hro hden hcl C (chk_sound hro hden hcl C n)
end
end Mine
lay_z Mine.callT
lay_z Mine.chk
lay_z Mine.entK
namespace Mine
noncomputable def denZ:Code->Sem Fin:=PySem.W.ZFast.zw11892475500146522536 PySem.W.ZFast.tableZ
noncomputable def clZ:Value->Args->Sem Fin:=PySem.W.ZFast.zw6198538022935230224
theorem denZ_eq:denZ=denote table:=by
 unfold denZ
 rw [←PySem.W.ZFast.ze11892475500146522536,←PySem.W.ZFast.tableZ_eq]
theorem clZ_eq:clZ=callT:=by
 unfold clZ
 rw [←PySem.W.ZFast.ze6198538022935230224]
section
variable (prog:Program) (w:World) (mask:Nat) (ro:Led) (D U:Nat) (l0:Option (List Env)) (n:Nat) (c:Code) (led:Led) (N tk:Nat) (scr:Scr)
def run:Prop:=
 withH scr fun h scr=>PySem.W.ZFast.zw7104783176950422471 denZ clZ D U l0 (PySem.W.ZFast.zw1411028270935627829 denZ clZ ⟨prog,w.params⟩ mask (tb w) ro D U l0 n) c .base led [] .nil 0 0 N tk h scr
theorem run_eq:run prog w mask ro D U l0 n c led N tk scr=
  entK denZ clZ D U l0 (chk denZ clZ ⟨prog,w.params⟩ mask (tb w) ro D U l0 n) c .base led [] .nil 0 0 N tk scr.hint scr:=by
 unfold run
 rw [withH_eq,←PySem.W.ZFast.ze7104783176950422471,←PySem.W.ZFast.ze1411028270935627829]
end
def runS (prog:Program) (mask:Nat) (ro:Led) (w:World) (S:Summ) (f:Nat->Nat->Scr) (N tk:Nat):Prop:=run prog w mask ro S.d S.u S.fr 100000 S.code S.need N tk (f N tk)
def trvS (ro:Led) (S:Summ) (f:Nat->Nat->Scr) (N tk:Nat):Prop:=withH (f N tk) fun h scr=>triv (ro.map (·.1)) 100000 (S.need.map (·.1)) [] N h scr
theorem trvS_true {ro:Led} {S:Summ} {f:Nat->Nat->Scr} {N tk:Nat}:trvS ro S f N tk:=by
 unfold trvS;rw [withH_eq];exact triv_true ..
noncomputable def zipQ:LN->Led->List (Nat×Nat×Obj)
 | i::is,p::l=>(i,p.1,p.2)::zipQ is l
 | _,_=>[]
noncomputable def Le {α:Type} (M:Model) (A:Around) (c:Code) (t t':Sem α):Prop:=∀(Γ:PySem.Ctx) (p:Pos) (s:Shared) (Q:α->Pos->Shared->Prop) (E:Value->Pos->Shared->Prop),Γ.code=c->Γ.In A->Sem.wp M Γ t Q E p s->Sem.wp M Γ t' Q E p s
section
variable {α β:Type} {M:Model} {A:Around} {c:Code}
theorem Le.refl (t:Sem α):Le M A c t t:=fun _ _ _ _ _ _ _ h=>h
theorem Le.of_eq {t t':Sem α} (e:t=t'):Le M A c t t':=e▸Le.refl t
theorem Le.bind {m m':Sem α} {f f':α->Sem β} (h:Le M A c m m') (hf:∀a,Le M A c (f a) (f' a)):Le M A c (m>>=f) (m'>>=f'):=fun Γ p s Q E hc hΓ hw=>by
 rw [Sem.wp_bind'] at hw ⊢
 exact h Γ p s _ _ hc hΓ (Sem.wp_mono M Γ m (fun a p' s' h'=>hf a Γ p' s' Q E hc hΓ h') (fun _ _ _ h'=>h') p s hw)
theorem Le.onRaise {t t':Sem α} {k:Value->Sem Unit} (h:Le M A c t t'):Le M A c (t.onRaise k) (t'.onRaise k):=fun Γ p s Q E hc hΓ hw=>by
 rw [Sem.wp_onRaise] at hw ⊢
 exact h Γ p s _ _ hc hΓ hw
end
noncomputable def funcT (t:Sem Flow) (env:Env):Sem Fin:=do
 point
 match ←t.onRaise (leaving env) with
 | .ret v=>ret v
 | _=>ret .none
theorem funcT_le {M:Model} {A:Around} {c:Code} {t t':Sem Flow} {env:Env} (h:Le M A c t t'):Le M A c (funcT t env) (funcT t' env):=
 Le.bind (Le.refl _) fun _=>Le.bind (Le.onRaise h) fun _=>Le.refl _
theorem funcT_eq (body:List Stmt) (env:Env):denote table (.func body env)=funcT (execs body env) env:=rfl
section
variable (prog:Program) (w:World) (mask:Nat) (ro:Led) (D U:Nat) (l0:Option (List Env)) (n:Nat) (c:Code) (T:Sem Fin) (led:Led) (N tk:Nat) (scr:Scr)
def runT:Prop:=
 withH scr fun h scr=>PySem.W.ZFast.zw1411028270935627829 denZ clZ ⟨prog,w.params⟩ mask (tb w) ro D U l0 n c .base T led [] .nil 0 0 N tk h scr
theorem runT_eq:runT prog w mask ro D U l0 n c T led N tk scr=
  chk denZ clZ ⟨prog,w.params⟩ mask (tb w) ro D U l0 n c .base T led [] .nil 0 0 N tk scr.hint scr:=by
 unfold runT
 rw [withH_eq,←PySem.W.ZFast.ze1411028270935627829]
end
def runTS (prog:Program) (mask:Nat) (ro:Led) (w:World) (S:Summ) (T:Sem Fin) (f:Nat->Nat->Scr) (N tk:Nat):Prop:=runT prog w mask ro S.d S.u S.fr 100000 S.code T S.need N tk (f N tk)
noncomputable def kh (w:World) (n:Str):Int:=PySem.W.ZFast.zw15500001179271910561 w.params n
section
variable (w:World) (es:List (Str×Nat×Value))
def ents:Array DictEntry:=(es.map fun e=>(⟨kh w e.1,.str e.1 e.2.1,e.2.2⟩:DictEntry)).toArray
def dictO (ep:Nat):Obj:={cls:=.type "dict",data:=.dict (ents w es) ep}
def frameO (ep:Nat):Obj:={cls:=.type "frame",data:=.dict (ents w es) ep}
end
noncomputable def inst (c d:Nat):Obj:={cls:=.ref c,dict:=some d}
noncomputable def lst (xs:LV) (ep:Nat):Obj:={cls:=.type "list",data:=.seq xs.toArray ep}
noncomputable def tup (xs:LV):Obj:={cls:=.type "tuple",data:=.seq xs.toArray}
noncomputable def st (l:LN):Str:=⟨l.toArray⟩
noncomputable def chs (l:List (Nat×Nat)):LV:=l.map fun p=>.str ⟨#[p.1]⟩ p.2
def fnData (w:World) (a:Nat):FuncData:=match (tb w).get a with
 | some o=>match o.data with
  | .func fd=>fd
  | _=>default
 | none=>default
def fnBody (w:World) (a:Nat):List Stmt:=match (fnData w a).body with
 | .stmts b=>b
 | _=>[]
noncomputable def nthS:List Stmt->Nat->Stmt
 | s::_,0=>s
 | _::l,n+1=>nthS l n
 | [],_=>.Pass ⟨0,0,0,0⟩
def lamStmt (w:World):Stmt:=nthS (fnBody w 289) 2
noncomputable def lamArgs:Stmt->Arguments
 | .Assign _ (.Lambda a _ _ _) _=>a
 | _=>{posonlyargs:=[],args:=[],vararg:=none,kwonlyargs:=[],kw_defaults:=[],kwarg:=none,defaults:=[]}
noncomputable def lamBody:Stmt->Expr
 | .Assign _ (.Lambda _ b _ _) _=>b
 | _=>.Constant .none 0 ⟨0,0,0,0⟩
noncomputable def lamScope:Stmt->Scope
 | .Assign _ (.Lambda _ _ s _) _=>s
 | _=>default
structure LexR where
 lx:Nat
 ld:Nat
 sx:Nat
 sd:Nat
 fn:Nat
 cd:Nat
 cell:Nat
 left:Nat
 pb1:Nat
 pb2:Nat
 tupc:Nat
 q:Nat->Nat
 cdFirst:Value
 cdRest:LV
noncomputable def codeO (v:Value) (q:Nat) (r:LV):Obj:={cls:=.type "code",data:=.fields (v::.str "_law_read.<locals>.<lambda>" q::r).toArray}
noncomputable def cellO (a:Nat):Obj:={cls:=.type "cell",data:=.cell (some (.ref a))}
def lamO (w:World) (R:LexR):Obj:={cls:=.type "function",data:=.func {name:="<lambda>",qualname:="_law_read.<locals>.<lambda>",params:=lamArgs (lamStmt w),body:=.expr (lamBody (lamStmt w)),scope:=lamScope (lamStmt w),globals:=3,closure:=[("left",R.cell)],defaults:=.none,kwdefaults:=.none,pyModule:=.str "law_ty0037_01" (R.q 20),code:=.ref R.cd,closureTuple:=.ref R.tupc,builtins:=0}}
noncomputable def wsS:Str:=⟨#[10,9,13,32]⟩
def lexLed (w:World) (R:LexR) (n:Int) (tn:Nat) (l:List (Nat×Nat)) (ep:Nat):Led:=
 [(R.lx,inst 249 R.ld),(R.ld,dictO w [("lineno",R.q 0,.int n tn),("instream",R.q 1,.ref R.sx),("whitespace",R.q 2,.str wsS (R.q 3)),("pushback",R.q 4,.ref R.pb1)] 4),
  (R.sx,inst 249 R.sd),(R.sd,dictO w [("lineno",R.q 5,.int 1 (R.q 6)),("instream",R.q 7,.none),("whitespace",R.q 8,.str wsS (R.q 9)),("pushback",R.q 10,.ref R.pb2),("read",R.q 11,.ref R.fn)] 5),
  (R.fn,lamO w R),(R.cd,codeO R.cdFirst (R.q 12) R.cdRest),(R.cell,cellO R.left),(R.left,lst (chs l) ep)]
theorem den_b {n:String} {a:Args} {b:Builtin} (h:entryFor table n=some b):denote table (.builtin n a)=b a:=by
 show (match entryFor table n with | some b=>b a | none=>PySem.unsupported ((withoutEnding? n "#data").getD n))=_
 rw [h]
theorem codeB {w:World} {A:Around} {s:Shared} {n:String} {a:Args} {b:Builtin} {R:Result->Shared->Prop} (hp:plainId n=true) (h:entryFor table n=some b)
  (H:wpAny (model pw w) A.in1 (b a) (fun fin s'=>match fin with
   | .done f=>R (.ok f) s'
   | .again c'=>c'.quiet=true/\codeAny (model pw w) A c' R s') (fun e s'=>R (.error e) s') s):codeAny (model pw w) A (.builtin n a) R s:=by
 refine codeAny_of_tree ?_
 rw [Around.under_plainId hp]
 show wpAny _ A.in1 (denote table (.builtin n a)) _ _ s
 rw [den_b h]
 exact H
theorem rezip_self:∀l:Led,rezip l (l.map (·.2))=l
 | []=>rfl
 | p::l=>by show (p.1,p.2)::rezip l (l.map (·.2))=_;rw [rezip_self l]
theorem out_same {s s':Shared} {need:Led} (hh:s'.heap=s.heap) (hg:s'.gens=s.gens) (ho:s'.os=s.os) (hn:∀p∈need,s.heap.get? p.1=some p.2):Out s s' (need.map (·.1)) (rezip need (need.map (·.2))) [] []:=by
 refine ⟨fun b o h _=>by rw [hh];exact h,fun p hp=>?_,fun _ h=>(nomatch h),fun _ h=>(nomatch h),List.nodup_nil,by rw [hh];exact Nat.le_refl _,ho,by rw [hg];exact id⟩
 rw [rezip_self] at hp
 rw [hh];exact hn p hp
theorem out_one {s s':Shared} {a:Nat} {o o':Obj} (hs:Heap.SameBut a s.heap s'.heap) (hg:s'.gens=s.gens) (ho:s'.os=s.os) (hn:s'.heap.get? a=some o'):Out s s' ([(a,o)].map (·.1)) (rezip [(a,o)] [o']) [] []:=by
 refine ⟨fun b o h hb=>(hs.2 b fun e=>hb (by rw [e];exact .head _)).trans h,fun p hp=>?_,fun _ h=>(nomatch h),fun _ h=>(nomatch h),List.nodup_nil,by rw [hs.1];exact Nat.le_refl _,ho,by rw [hg];exact id⟩
 rcases iC hp with rfl | hp
 ·exact hn
 ·cases hp
theorem out_push {s s':Shared} {need:Led} {o:Obj} (hh:s'.heap=s.heap.push o) (hf:o.isFreed=false) (hg:s'.gens=s.gens) (ho:s'.os=s.os) (hn:∀p∈need,s.heap.get? p.1=some p.2):
  Out s s' (need.map (·.1)) (rezip need (need.map (·.2))) [(s.heap.objs.size,o)] []:=by
 refine ⟨fun b o h _=>by rw [hh];exact Heap.get?_push_of_some _ h,fun p hp=>?_,fun p hp=>?_,fun _ h=>(nomatch h),by simp,by rw [hh,Heap.size_push];lia,ho,by rw [hg];exact id⟩
 ·rw [rezip_self] at hp
  rw [hh];exact Heap.get?_push_of_some _ (hn p hp)
 ·rcases iC hp with rfl | hp
  ·exact ⟨by rw [hh];exact Heap.get?_push_size _ hf,Nat.le_refl _⟩
  ·cases hp
section
variable {w:World} {S:Summ} {id:String} {args:Args} {b:Builtin}
theorem valid_b (hc:S.code=.builtin id args) (plain:plainId id=true) (entry:entryFor table id=some b)
  (h:∀A s,RoomOk A S->BaseOk mask w s.heap->(∀p∈S.need,s.heap.get? p.1=some p.2)->(∀p∈S.imm,s.heap.get? p.1=some p.2)->
   wpAny (model pw w) A.in1 (b args) (fun fin s'=>∃r,fin=.done (.ret r)/\Post S s (.ok (.ret r)) s') (fun e s'=>Post S s (.error e) s') s):Vd w S:=by
 intro A s room base need imm _ _ _
 rw [hc]
 refine codeAny_of_tree ?_
 rw [Around.under_plainId plain]
 show wpAny _ A.in1 (match entryFor table id with | some b=>b args | none=>_) _ _ s
 rw [entry]
 refine wpAny_mono (h A s room base need fun p hp=>(imm p hp).1) (fun fin s' hf=>?_) fun e s' he=>he
 obtain ⟨r,rfl,hr⟩:=hf
 exact hr
theorem valid_m {Sp:PySem.Spec} (hc:S.code=.builtin id args) (plain:plainId id=true) (entry:entryFor table id=some b) (G:Meets (b args) Sp)
  (h:∀A s,RoomOk A S->BaseOk mask w s.heap->(∀p∈S.need,s.heap.get? p.1=some p.2)->(∀p∈S.imm,s.heap.get? p.1=some p.2)->Sp A (Post S s) s):Vd w S:=by
 intro A s room base need imm _ _ _
 rw [hc]
 refine codeAny_of_tree ?_
 rw [Around.under_plainId plain]
 show wpAny _ A.in1 (match entryFor table id with | some b=>b args | none=>_) _ _ s
 rw [entry]
 exact G pw w A (Post S s) s (h A s room base need fun p hp=>(imm p hp).1)
end
def sLen (a:Nat) (xs:LV) (ep:Nat):Summ where
 code:=.builtin "len" ⟨[.ref a],[]⟩
 need:=[(a,lst xs ep)]
 Res:=Nat
 res:=fun x=>.ok (.ret (.int xs.length x))
 upd:=fun _=>[lst xs ep]
 d:=5
 u:=10
theorem sLen_valid {w:World} {a:Nat} {xs:LV} {ep:Nat} (h:xs.length<=100000):Vd w (sLen a xs ep):=
 valid_b rfl plain_len entry_len fun A s room base need imm=>by
  have ho:=need _ (.head _)
  refine wpAny_len_body_list ⟨_,ho,rfl,ep,rfl⟩ (by simp;lia) ⟨s.toks+1,trivial,by simp [sLen],rfl,out_same (need:=[(a,lst xs ep)]) rfl rfl rfl need⟩
def sPop0 (a:Nat) (v:Value) (xs:LV) (ep t:Nat):Summ where
 code:=.builtin "list.pop" ⟨[.ref a,.int 0 t],[]⟩
 need:=[(a,lst (v::xs) ep)]
 Res:=Unit
 res:=fun _=>.ok (.ret v)
 upd:=fun _=>[lst xs (ep+1)]
 d:=5
 u:=10
theorem sPop0_valid {w:World} {a:Nat} {v:Value} {xs:LV} {ep t:Nat} (h:xs.length<=100000):Vd w (sPop0 a v xs ep t):=by
 refine valid_m rfl PySem.F.slot_list_pop.plain PySem.F.entry_list_pop (PySem.MeetsSeq.list_pop_at a (v::xs).toArray ep 0 t 0 v (by decide) (by simp [seqIndex?]) (by simp) (by rw [sizeLine_eq];simp;exact leT ‹_› rfl)) fun A s room base need imm=>⟨need _ (.head _),(),trivial,rfl,rfl,?_⟩
 have ho:=need _ (.head _)
 refine out_one (o:=lst (v::xs) ep) (Heap.SameBut.update ..) rfl rfl ?_
 refine (Heap.get?_update_self _ ho rfl).trans ?_
 simp [lst,Obj.mapSeq,Array.eraseIdxIfInBounds]
noncomputable def sV (id:String) (args:LV) (v:Value):Summ where
 code:=.builtin id ⟨args,[]⟩
 Res:=Unit
 res:=fun _=>.ok (.ret v)
 d:=5
 u:=10
noncomputable def sT (id:String) (args:LV) (v:Nat->Value):Summ where
 code:=.builtin id ⟨args,[]⟩
 Res:=Nat
 res:=fun t=>.ok (.ret (v t))
 d:=5
 u:=10
theorem out_nil {s s':Shared} (hh:s'.heap=s.heap) (hg:s'.gens=s.gens) (ho:s'.os=s.os):Out s s' [] [] [] []:=out_same (need:=[]) hh hg ho fun _ h=>nomatch h
section
variable {w:World} {id:String} {args:LV} {b:Builtin}
theorem sV_valid {v v':Value} (plain:plainId id=true) (entry:entryFor table id=some b) (G:Gives (b ⟨args,[]⟩) (.val v')) (e:v'=v):Vd w (sV id args v):=by
 subst e
 exact valid_m rfl plain entry G.meets fun A s room base need imm=>⟨(),trivial,rfl,rfl,out_nil rfl rfl rfl⟩
theorem sT_int {i i':Int} (plain:plainId id=true) (entry:entryFor table id=some b) (G:Gives (b ⟨args,[]⟩) (.int i')) (e:i'=i):Vd w (sT id args (.int i)):=by
 subst e
 exact valid_m rfl plain entry G.meets fun A s room base need imm=>⟨s.toks,trivial,rfl,rfl,out_nil rfl rfl rfl⟩
theorem sT_str {x x':Str} (plain:plainId id=true) (entry:entryFor table id=some b) (G:Gives (b ⟨args,[]⟩) (.str x')) (e:x'=x) (h:x'.length<=sizeLine):Vd w (sT id args (.str x)):=by
 subst e
 exact valid_m rfl plain entry G.meets fun A s room base need imm=>⟨h,s.toks,trivial,rfl,rfl,out_nil rfl rfl rfl⟩
end
noncomputable abbrev sStrEq (a:Str) (t:Nat) (b:Str) (u:Nat) (r:Bool):Summ:=sV "str.__eq__" [.str a t,.str b u] (.bool r)
theorem sStrEq_valid {w:World} {a:Str} {t:Nat} {b:Str} {u:Nat} {r:Bool} (h:(a.cps.toList==b.cps.toList)=r):Vd w (sStrEq a t b u r):=
 sV_valid PySem.F.slot_str_eq.plain PySem.F.entry_str_eq (gives_str_eq a b t u) (by rw [h])
def sAdd (a:LN) (t:Nat) (b:LN) (u:Nat):Summ:=sT "str.__add__" [.str (st a) t,.str (st b) u] (.str (st (a++b)))
theorem sAdd_valid {w:World} {a:LN} {t:Nat} {b:LN} {u:Nat} (h:a.length+b.length<=100000):Vd w (sAdd a t b u):=by
 have g:=gives_str_add (st a) (st b) t u
 have la:(st a).length=a.length:=by simp [st,Str.length]
 have lb:(st b).length=b.length:=by simp [st,Str.length]
 rw [la,lb] at g
 cases a with
 | nil=>
  have g':Gives (Builtin.«str.__add__» ⟨[.str (st []) t,.str (st b) u],[]⟩) (.val (.str (st b) u)):=by simpa using g
  exact valid_m rfl PySem.F.slot_str_add.plain PySem.F.entry_str_add g'.meets fun A s room base need imm=>⟨u,trivial,rfl,rfl,out_nil rfl rfl rfl⟩
 | cons c a=>
  cases b with
  | nil=>
   have g':Gives (Builtin.«str.__add__» ⟨[.str (st (c::a)) t,.str (st []) u],[]⟩) (.val (.str (st (c::a)) t)):=by simpa using g
   exact valid_m rfl PySem.F.slot_str_add.plain PySem.F.entry_str_add g'.meets fun A s room base need imm=>⟨t,trivial,by simp [sAdd,sT],rfl,out_nil rfl rfl rfl⟩
  | cons d b=>
   have g':Gives (Builtin.«str.__add__» ⟨[.str (st (c::a)) t,.str (st (d::b)) u],[]⟩) (.str (st (c::a)++st (d::b))):=by simpa using g
   refine sT_str PySem.F.slot_str_add.plain PySem.F.entry_str_add g' ?_ ?_
   ·show Str.mk ((c::a).toArray++(d::b).toArray)=Str.mk (c::a++d::b).toArray
    simp
   ·show (st (c::a)++st (d::b)).length<=_
    have:(st (c::a)++st (d::b)).length=(c::a).length+(d::b).length:=by
     show ((st (c::a)).cps++(st (d::b)).cps).size=_
     simp [st];lia
    rw [this,sizeLine_eq];exact leT ‹_› rfl
noncomputable abbrev sStrIn (a:Str) (t:Nat) (b:Str) (u:Nat) (r:Bool):Summ:=sV "str.__contains__" [.str a t,.str b u] (.bool r)
theorem sStrIn_valid {w:World} {a:Str} {t:Nat} {b:Str} {u:Nat} {r:Bool} (h:(!(Builtin.Str.occurrences a b 0 a.length 1).isEmpty)=r):Vd w (sStrIn a t b u r):=
 sV_valid PySem.F.slot_str_contains.plain PySem.F.entry_str_contains (gives_str_contains a b t u) (by rw [h])
def fnQual (w:World) (a:Nat):Str:=match (fnData w a).code with
 | .ref c=>match (tb w).get c with
  | some o=>match o.data with
   | .fields vs=>match vs.toList with
    | _::.str q _::_=>q
    | _=>Str.empty
   | _=>Str.empty
  | none=>Str.empty
 | _=>Str.empty
def fnEnv (w:World) (a N:Nat) (cells:List (Str×Nat)):Env:={scope:=(fnData w a).scope,locals:=N,globals:=3,cells:=cells,qual:=fnQual w a++".<locals>.",func:=some a,code:=(fnData w a).code,frame:=some N,builtins:=0}
noncomputable def partS:Stmt->Nat->List Stmt
 | .For _ _ b e _,k=>if k=0 then b else e
 | .If _ b e _,k=>if k=0 then b else e
 | .While _ b e _,k=>if k=0 then b else e
 | .Try b _ e _ _,k=>if k=0 then b else e
 | _,_=>[]
noncomputable def atS:List Stmt->Nat->List (Nat×Nat)->Stmt
 | l,i,[]=>nthS l i
 | l,i,(k,j)::r=>atS (partS (nthS l i) k) j r
noncomputable def loopC:Stmt->Value->Env->Code
 | .For t _ b e _,it,env=>.forLoop t it b e env
 | .While t b e _,_,env=>.whileLoop t b e env
 | _,_,_=>default
theorem valid_n {w:World} {S:Summ} {id:String} {args:Args} {b:Builtin} (hc:S.code=.builtin id args) (plain:plainId id=true) (entry:entryFor table id=some b)
  (h:∀A s,RoomOk A S->BaseOk mask w s.heap->(∀p∈S.need,s.heap.get? p.1=some p.2)->(∀p∈S.imm,s.heap.get? p.1=some p.2)->(S.need.map (·.1)).Nodup->(∀p∈S.need,Nat.testBit mask p.1=false)->
   wpAny (model pw w) A.in1 (b args) (fun fin s'=>∃r,fin=.done (.ret r)/\Post S s (.ok (.ret r)) s') (fun e s'=>Post S s (.error e) s') s):Vd w S:=by
 intro A s room base need imm nodup msk _
 rw [hc]
 refine codeAny_of_tree ?_
 rw [Around.under_plainId plain]
 show wpAny _ A.in1 (match entryFor table id with | some b=>b args | none=>_) _ _ s
 rw [entry]
 refine wpAny_mono (h A s room base need (fun p hp=>(imm p hp).1) nodup msk) (fun fin s' hf=>?_) fun e s' he=>he
 obtain ⟨r,rfl,hr⟩:=hf
 exact hr
theorem byRow (row:String) {P:World->Prop} (h:∀(b:Bool) (w:World),P (w.withFollow row b)) (w:World):P w:=byRow2 row (h false) (h true) w
theorem noImm {S:Summ} {P:Nat×Obj->Prop} (h:S.imm=[]):∀p∈S.imm,P p:=by rw [h];exact fun _ h=>nomatch h
noncomputable def zipP:LN->Led->List (Nat×Nat×Obj)
 | p::ps,q::l=>(p,q.1,q.2)::zipP ps l
 | _,_=>[]
noncomputable def bagN (S:Summ) (x:S.Res) (bag:Led) (mv:List (Nat×Nat×Obj)):Led:=match S.giv with
 | true=>bag++ledOf mv++S.giveImm x
 | false=>match mv with
  | []=>bag
  | _::_=>bag++ledOf mv
section
variable {S:Summ} {x:S.Res} {bag:Led}
theorem bagK_N {mv:List (Nat×Nat×Obj)} {k:Led->Prop} (h:k (bagN S x bag mv)):bagK S x bag mv k:=by
 unfold bagK
 unfold bagN at h
 cases e:S.giv with
 | true=>rw [e] at h;exact h
 | false=>rw [e] at h;cases mv <;>exact h
theorem bagK_F {k:Led->Prop} (hg:S.giv=false) (h:k bag):bagK S x bag [] k:=by
 unfold bagK;rw [hg];exact h
end
noncomputable def flatS (S:Summ):Bool:=match S.imm with
 | []=> !S.giv
 | _::_=>false
theorem tt:true=true:=rfl
theorem ng {b:Bool} (h:(!b)=true):b=false:=by cases b <;>first | rfl | cases h
theorem flat_of {S:Summ} (h:flatS S=true):S.imm=[]/\S.giv=false:=by
 unfold flatS at h
 cases e:S.imm with
 | nil=>rw [e] at h;exact ⟨rfl,ng h⟩
 | cons p l=>rw [e] at h;cases h
inductive Pf (mask:Nat) (prog:Program) (w:World) (G:OblG):List (Nat×Code)->Led->Type 1 where
 | done {gl:List (Nat×Code)} {bag:Led} (h:Nat) (r:Result) (finM finN mv:List (Nat×Nat×Obj)) (p:∀s',Out G.s₀ s' G.mods (ledOf finM) (ledOf finN) (bag++ledOf mv)->G.R r s'):Pf mask prog w G gl bag
 | u {gl:List (Nat×Code)} {bag:Led} (h:Nat) (S:Summ) (at_ keep:LN) (hv:Valid mask prog w S) (hk:flatS S=true) (next:∀(x:S.Res) (_ _:Nat),Pf mask prog w G [] bag):Pf mask prog w G gl bag
 | up {gl:List (Nat×Code)} {bag:Led} (h:Nat) (S:Summ) (at_ keep:LN) (hv:Valid mask prog w S) (hk:flatS S=true) (next:∀(x:S.Res) (_ _:Nat),S.post x->Pf mask prog w G [] bag):Pf mask prog w G gl bag
 | ui {gl:List (Nat×Code)} {bag:Led} (h:Nat) (S:Summ) (at_ keep:LN) (hv:Valid mask prog w S) (hi:∀p∈S.imm,p∈G.imm0\/p∈bag++ledOf []) (hg:(!S.giv)=true) (next:∀(x:S.Res) (_ _:Nat),Pf mask prog w G [] bag):Pf mask prog w G gl bag
 | uq {gl:List (Nat×Code)} {bag:Led} (h:Nat) (S:Summ) (at_ keep:LN) (hv:Valid mask prog w S) (hi:∀p∈S.imm,p∈G.imm0\/p∈bag++ledOf []) (hg:(!S.giv)=true) (next:∀(x:S.Res) (_ _:Nat),S.post x->Pf mask prog w G [] bag):Pf mask prog w G gl bag
 | use {gl:List (Nat×Code)} {bag:Led} (h:Nat) (S:Summ) (at_ keep:LN) (mv:List (Nat×Nat×Obj)) (hv:Valid mask prog w S) (hi:∀p∈S.imm,p∈G.imm0\/p∈bag++ledOf mv)
   (next:∀(x:S.Res) (_ _:Nat),S.post x->Pf mask prog w G [] (bagN S x bag mv)):Pf mask prog w G gl bag
 | useG {gl:List (Nat×Code)} {bag:Led} (h:Nat) (k:ON) (S:Summ) (at_ keep:LN) (mv:List (Nat×Nat×Obj)) (hv:Valid mask prog w S) (hi:∀p∈S.imm,p∈G.imm0\/p∈bag++ledOf mv) (hg:∀g∈S.gneed,g∈gl)
   (next:∀(x:S.Res) (_ tk:Nat),S.post x->tokP k tk->Pf mask prog w G [] (bagN S x bag mv)):Pf mask prog w G gl bag
 | gen {gl:List (Nat×Code)} {bag:Led} (h:Nat) (c:Code) (next:∀a:Nat,Pf mask prog w G ((a,c)::gl) bag):Pf mask prog w G gl bag
section
variable {mk:Nat} {prog:Program} {w:World} {G:OblG}
def Pf.scr {gl:List (Nat×Code)} {bag:Led} (p:Pf mk prog w G gl bag):Scr:=
 Pf.rec (motive:=fun _ _ _=>Scr) (fun h r a b c _=>.done h r a b c) (fun h S a k _ _ _ ih=>.use h S a k [] fun x N t _=>ih x N t) (fun h S a k _ _ _ ih=>.use h S a k [] ih) (fun h S a k _ _ _ _ ih=>.use h S a k [] fun x N t _=>ih x N t) (fun h S a k _ _ _ _ ih=>.use h S a k [] ih) (fun h S a k mv _ _ _ ih=>.use h S a k mv ih) (fun h t S a k mv _ _ _ _ ih=>.useG h t S a k mv ih) (fun h c _ ih=>.gen h c ih) p
theorem Pf.obl:∀{gl:List (Nat×Code)} {bag:Led} (p:Pf mk prog w G gl bag),Obl mk prog w G gl bag p.scr:=fun p=>by
 induction p with
 | done h r a b c q=>exact q
 | u h S a k hv hk next ih=>exact ⟨hv,fun p hp=>(by rw [(flat_of hk).1] at hp;cases hp),fun x N tk hx=>bagK_F (flat_of hk).2 (ih x N tk)⟩
 | up h S a k hv hk next ih=>exact ⟨hv,fun p hp=>(by rw [(flat_of hk).1] at hp;cases hp),fun x N tk hx=>bagK_F (flat_of hk).2 (ih x N tk hx)⟩
 | ui h S a k hv hi hg next ih=>exact ⟨hv,hi,fun x N tk hx=>bagK_F (ng hg) (ih x N tk)⟩
 | uq h S a k hv hi hg next ih=>exact ⟨hv,hi,fun x N tk hx=>bagK_F (ng hg) (ih x N tk hx)⟩
 | use h S a k mv hv hi next ih=>exact ⟨hv,hi,fun x N tk hx=>bagK_N (ih x N tk hx)⟩
 | useG h t S a k mv hv hi hg next ih=>exact ⟨hv,hi,hg,fun x N tk hx ht=>bagK_N (ih x N tk hx ht)⟩
 | gen h c next ih=>exact fun a=>ih a
end
noncomputable abbrev PfS (w:World) (S:Summ) (s:Shared):Type 1:=∀G:OblG,G=gOf S s->(∀p∈S.imm,p∈G.imm0)->Pf mask pw w G S.gneed []
section
variable {w:World} {S:Summ} {s:Shared} (p:PfS w S s)
def PfS.scr:Scr:=(p (gOf S s) rfl fun _ h=>h).scr
theorem PfS.obl:Obl mask pw w (gOf S s) S.gneed [] p.scr:=(p (gOf S s) rfl fun _ h=>h).obl
end
theorem inJ {L M B:Led} (h:∀p∈L,p∈M):∀p∈L,p∈M\/p∈B:=fun p hp=>.inl (h p hp)
theorem inW {S:Summ} {s:Shared} {G:OblG} {L B:Led} (D:G=gOf S s) (h:∀p∈L,p∈S.imm\/p∈B):∀p∈L,p∈G.imm0\/p∈B:=by subst D;exact h
section
variable {w:World} {S:Summ} {s:Shared} {G:OblG} {gl:List (Nat×Code)} {bag:Led} (D:G=gOf S s) (h:Nat)
noncomputable def dn (r:Result) (fm fn mv:List (Nat×Nat×Obj)) (p:∀s',Out s s' (S.need.map (·.1)) (ledOf fm) (ledOf fn) (bag++ledOf mv)->Post S s r s'):Pf mask pw w G gl bag:=
 .done h r fm fn mv fun s' O=>by subst D;exact p s' O
noncomputable def endQ (x:S.Res) (pm pn pv:LN) (p:∀s',Out s s' (S.need.map (·.1)) (ledOf (zipQ pm (rezip S.need (S.upd x)))) (ledOf (zipQ pn (S.new x))) (bag++ledOf (zipQ pv (S.giveImm x)))->Post S s (S.res x) s'):Pf mask pw w G gl bag:=
 dn D h (S.res x) _ _ _ p
end
theorem rep0 {w:World} {S:Summ} {s:Shared} (base:BaseOk mask w s.heap) (need:∀p∈S.need,s.heap.get? p.1=some p.2) (imm:∀p∈S.imm,s.heap.get? p.1=some p.2/\p.1∉S.need.map (·.1)) (nodup:(S.need.map (·.1)).Nodup) (msk:∀p∈S.need,Nat.testBit mask p.1=false):RepS mask w s (S.need.map (·.1)) S.imm [] s.heap.objs.size s.toks S.need [] .nil 0 0 s:=by
 refine ⟨rfl,rfl,Nat.le_refl _,fun _ _ h=>(nomatch h),fun p hp=>⟨need p hp,List.mem_map_of_mem hp⟩,rfl,nodup,fun a ha=>?_,fun _ h=>(nomatch h),List.nodup_nil,fun p hp=>⟨(imm p hp).1,Heap.lt_size (imm p hp).1,(imm p hp).2⟩,fun _ h=>(nomatch h),fun b o hb _=>hb,base,rfl,id⟩
 obtain ⟨p,hp,rfl⟩:=List.mem_map.mp ha
 exact ⟨Heap.lt_size (need p hp),msk p hp⟩
section
variable {S:World->Summ}
def okP (ro:Led) (p:∀(w:World) (s:Shared) (_ _:Nat),PfS w (S w) s) (g:World->World):Prop:=∀w s N t,runS pw mask ro (g w) (S (g w)) (fun N t=>(p (g w) s N t).scr) N t
def okT (T:World->Sem Fin) (ro:Led) (p:∀(w:World) (s:Shared) (_ _:Nat),PfS w (S w) s) (g:World->World):Prop:=∀w s N t,runTS pw mask ro (g w) (S (g w)) (T (g w)) (fun N t=>(p (g w) s N t).scr) N t
def trP (ro:Led) (p:∀(w:World) (s:Shared) (_ _:Nat),PfS w (S w) s) (g:World->World):Prop:=∀w s N t,trvS ro (S (g w)) (fun N t=>(p (g w) s N t).scr) N t
end
noncomputable def allN {α:Type} (f:α->Prop):List α->Prop
 | []=>True
 | a::l=>f a/\allN f l
theorem allN_of {α:Type} {f:α->Prop}:∀{l:List α},allN f l->∀a∈l,f a
 | _::_,h,a,ha=>(iC ha).elim (fun e=>e▸h.1) (allN_of h.2 a)
theorem allN_mk {α:Type} {f:α->Prop} (h:∀a,f a):∀l:List α,allN f l
 | []=>trivial
 | a::l=>⟨h a,allN_mk h l⟩
theorem trP_true {S:World->Summ} {ro:Led} {p:∀(w:World) (s:Shared) (_ _:Nat),PfS w (S w) s} (g:World->World):trP ro p g:=fun _ _ _ _=>trvS_true
def RoIn (ro:Led) (S:World->Summ):Prop:=∀w,∀p∈ro,p∈(S w).imm
theorem roNil {S:World->Summ}:RoIn [] S:=fun _ _ h=>nomatch h
noncomputable abbrev OwnS (w:World) (S:Summ) (T:Sem Fin):Prop:=∀A s,RoomOk A S->BaseOk mask w s.heap->(∀p∈S.need,s.heap.get? p.1=some p.2)->(∀p∈S.imm,s.heap.get? p.1=some p.2/\p.1∉S.need.map (·.1))->
   (S.need.map (·.1)).Nodup->(∀p∈S.need,Nat.testBit mask p.1=false)->(∀g∈S.gneed,s.gens[g.1]? =some (.fresh g.2))->
   wpOwn (model pw w) A S.code T (postC pw w A (Post S s)) (postE (Post S s)) s
section
variable {S:World->Summ} {ro:Led} {p:∀(w:World) (s:Shared) (_ _:Nat),PfS w (S w) s} {g:World->World} {T:World->Sem Fin}
theorem valid_P (H:okP ro p g) (hro:RoIn ro S) (w:World):Vd (g w) (S (g w)):=fun A s room base need imm nodup msk gn=>by
 have C:Ctx0 A (S (g w)).d (S (g w)).u (S (g w)).fr:=⟨room.handled,room.depth,room.units,room.frames,room.fr⟩
 have h:run pw (g w) mask ro (S (g w)).d (S (g w)).u (S (g w)).fr 100000 (S (g w)).code (S (g w)).need s.heap.objs.size s.toks (p (g w) s s.heap.objs.size s.toks).scr:=H w s s.heap.objs.size s.toks
 rw [run_eq] at h
 exact entK_sound (κ:=.base) denZ_eq clZ_eq C (chk_sound (hro _) denZ_eq clZ_eq C 100000) h (rep0 base need imm nodup msk) (Nat.le_refl _) gn (p (g w) s s.heap.objs.size s.toks).obl
theorem own_P (H:okT T ro p g) (hro:RoIn ro S) (w:World):OwnS (g w) (S (g w)) (T (g w)):=fun A s room base need imm nodup msk gn=>by
 have C:Ctx0 A (S (g w)).d (S (g w)).u (S (g w)).fr:=⟨room.handled,room.depth,room.units,room.frames,room.fr⟩
 have h:runT pw (g w) mask ro (S (g w)).d (S (g w)).u (S (g w)).fr 100000 (S (g w)).code (T (g w)) (S (g w)).need s.heap.objs.size s.toks (p (g w) s s.heap.objs.size s.toks).scr:=H w s s.heap.objs.size s.toks
 rw [runT_eq] at h
 exact chk_sound (hro _) (R₀:=Post (S (g w)) s) denZ_eq clZ_eq C 100000 (S (g w)).code .base (T (g w)) _ _ _ _ _ _ _ _ _ s [] (S (g w)).gneed h (rep0 base need imm nodup msk) (Nat.le_refl _) gn (p (g w) s s.heap.objs.size s.toks).obl
end
theorem valid_own {w:World} {S:Summ} {T:Sem Fin} (h:OwnS w S T) (hT:∀A,RoomOk A S->Le (model pw w) (A.under S.code) S.code T (denote table S.code)):Vd w S:=fun A s room base need imm nodup msk gn=>by
 refine y_code _ _ _ _ _ _ ?_
 exact fun Γ p' hc hΓ=>hT A room Γ p' s _ _ hc (hc▸hΓ.in) (h A s room base need imm nodup msk gn Γ p' hc hΓ)
noncomputable def fw (b:Bool) (w:World):World:=w.withFollow "special-get-raises" b
noncomputable def fv (c b:Bool) (w:World):World:=(w.withFollow "special-get-raises" b).withFollow "comprehension-iter-twice" c
def ws1:List (World->World):=[fw false,fw true]
def ws2 (c:Bool):List (World->World):=[fv c false,fv c true]
theorem ws1_all (w:World):∃g∈ws1,∃w0,w=g w0:=byRow "special-get-raises" (P:=fun w=>∃g∈ws1,∃w0,w=g w0) (fun b w=>⟨fw b,by cases b <;>simp [ws1],w,rfl⟩) w
theorem ws2_all (w:World):∃c,∃g∈ws2 c,∃w0,w=g w0:=
 byRow "comprehension-iter-twice" (P:=fun w=>∃c,∃g∈ws2 c,∃w0,w=g w0) (fun c w'=>byRow "special-get-raises" (P:=fun w=>∃c',∃g∈ws2 c',∃w0,w.withFollow "comprehension-iter-twice" c=g w0) (fun b w=>⟨c,fv c b,by cases b <;>simp [ws2],w,rfl⟩) w') w
theorem le_code {M:Model} {A:Around} {S:Summ} {T:Sem Fin} {c:Code} (hc:S.code=c) (h:Le M (A.under c) c T (denote table c)):Le M (A.under S.code) S.code T (denote table S.code):=by subst hc;exact h
section
variable {S:World->Summ}
theorem vRow (p:∀(w:World) (s:Shared) (_ _:Nat),PfS w (S w) s) (H:allN (okP [] p) ws1=allN (trP [] p) ws1):∀w,Vd w (S w):=by
 intro w
 obtain ⟨g,hg,w0,rfl⟩:=ws1_all w
 exact valid_P (allN_of (H.mpr (allN_mk trP_true _)) g hg) roNil w0
theorem vRowR (ro:Led) (hro:RoIn ro S) (p:∀(w:World) (s:Shared) (_ _:Nat),PfS w (S w) s) (H:allN (okP ro p) ws1=allN (trP ro p) ws1):∀w,Vd w (S w):=by
 intro w
 obtain ⟨g,hg,w0,rfl⟩:=ws1_all w
 exact valid_P (allN_of (H.mpr (allN_mk trP_true _)) g hg) hro w0
theorem vRowT (T:World->Sem Fin) (ro:Led) (hro:RoIn ro S) (p:∀(w:World) (s:Shared) (_ _:Nat),PfS w (S w) s) (H:allN (okT T ro p) ws1=allN (trP ro p) ws1):∀w,OwnS w (S w) (T w):=by
 intro w
 obtain ⟨g,hg,w0,rfl⟩:=ws1_all w
 exact own_P (allN_of (H.mpr (allN_mk trP_true _)) g hg) hro w0
theorem vTree (T:World->Sem Fin) (ro:Led) (hro:RoIn ro S) (hT:∀w A,RoomOk A (S w)->Le (model pw w) (A.under (S w).code) (S w).code (T w) (denote table (S w).code)) (p:∀(w:World) (s:Shared) (_ _:Nat),PfS w (S w) s) (H:allN (okT T ro p) ws1=allN (trP ro p) ws1):∀w,Vd w (S w):=
 fun w=>valid_own (vRowT T ro hro p H w) (hT w)
theorem vOne (p:∀(w:World) (s:Shared) (_ _:Nat),PfS w (S w) s) (H:okP [] p id=trP [] p id):∀w,Vd w (S w):=valid_P (H.mpr (trP_true id)) roNil
theorem vRow2 (ro:Led) (hro:RoIn ro S) (p:Bool->∀(w:World) (s:Shared) (_ _:Nat),PfS w (S w) s)
  (H:allN (fun c=>allN (okP ro (p c)) (ws2 c)) [false,true]=allN (fun c=>allN (trP ro (p c)) (ws2 c)) [false,true]):∀w,Vd w (S w):=by
 intro w
 obtain ⟨c,g,hg,w0,rfl⟩:=ws2_all w
 exact valid_P (allN_of (allN_of (H.mpr (allN_mk (fun _=>allN_mk trP_true _) _)) c (by cases c <;>simp)) g hg) hro w0
theorem vTree2 (T:World->Sem Fin) (ro:Led) (hro:RoIn ro S) (hT:∀w A,RoomOk A (S w)->Le (model pw w) (A.under (S w).code) (S w).code (T w) (denote table (S w).code)) (p:Bool->∀(w:World) (s:Shared) (_ _:Nat),PfS w (S w) s)
  (H:allN (fun c=>allN (okT T ro (p c)) (ws2 c)) [false,true]=allN (fun c=>allN (trP ro (p c)) (ws2 c)) [false,true]):∀w,Vd w (S w):=by
 intro w
 obtain ⟨c,g,hg,w0,rfl⟩:=ws2_all w
 exact valid_own (own_P (allN_of (allN_of (H.mpr (allN_mk (fun _=>allN_mk trP_true _) _)) c (by cases c <;>simp)) g hg) hro w0) (hT _)
theorem vRowT2 (T:World->Sem Fin) (ro:Led) (hro:RoIn ro S) (p:Bool->∀(w:World) (s:Shared) (_ _:Nat),PfS w (S w) s)
  (H:allN (fun c=>allN (okT T ro (p c)) (ws2 c)) [false,true]=allN (fun c=>allN (trP ro (p c)) (ws2 c)) [false,true]):∀w,OwnS w (S w) (T w):=by
 intro w
 obtain ⟨c,g,hg,w0,rfl⟩:=ws2_all w
 exact own_P (allN_of (allN_of (H.mpr (allN_mk (fun _=>allN_mk trP_true _) _)) c (by cases c <;>simp)) g hg) hro w0
end
section
variable {ι:Type} {S:World->ι->Summ}
theorem vFamT (T:World->ι->Sem Fin) (is:List ι) (hi:∀i,i∈is) (ro:Led) (hro:∀i,RoIn ro fun w=>S w i) (p:∀(i:ι) (w:World) (s:Shared) (_ _:Nat),PfS w (S w i) s)
  (H:allN (fun i=>allN (okT (S:=fun w=>S w i) (fun w=>T w i) ro (p i)) ws1) is=allN (fun i=>allN (trP (S:=fun w=>S w i) ro (p i)) ws1) is):∀w i,OwnS w (S w i) (T w i):=by
 intro w i
 obtain ⟨g,hg,w0,rfl⟩:=ws1_all w
 exact own_P (S:=fun w=>S w i) (T:=fun w=>T w i) (allN_of (allN_of (H.mpr (allN_mk (fun i=>allN_mk trP_true _) _)) i (hi i)) g hg) (hro i) w0
theorem vFam (is:List ι) (hi:∀i,i∈is) (ro:Led) (hro:∀i,RoIn ro fun w=>S w i) (p:∀(i:ι) (w:World) (s:Shared) (_ _:Nat),PfS w (S w i) s)
  (H:allN (fun i=>allN (okP (S:=fun w=>S w i) ro (p i)) ws1) is=allN (fun i=>allN (trP (S:=fun w=>S w i) ro (p i)) ws1) is):∀w i,Vd w (S w i):=by
 intro w i
 obtain ⟨g,hg,w0,rfl⟩:=ws1_all w
 exact valid_P (S:=fun w=>S w i) (allN_of (allN_of (H.mpr (allN_mk (fun i=>allN_mk trP_true _) _)) i (hi i)) g hg) (hro i) w0
theorem vFam2 (is:List ι) (hi:∀i,i∈is) (ro:Led) (hro:∀i,RoIn ro fun w=>S w i) (p:Bool->∀(i:ι) (w:World) (s:Shared) (_ _:Nat),PfS w (S w i) s)
  (H:allN (fun i=>allN (fun c=>allN (okP (S:=fun w=>S w i) ro (p c i)) (ws2 c)) [false,true]) is=allN (fun i=>allN (fun c=>allN (trP (S:=fun w=>S w i) ro (p c i)) (ws2 c)) [false,true]) is):∀w i,Vd w (S w i):=by
 intro w i
 obtain ⟨c,g,hg,w0,rfl⟩:=ws2_all w
 exact valid_P (S:=fun w=>S w i) (allN_of (allN_of (allN_of (H.mpr (allN_mk (fun i=>allN_mk (fun _=>allN_mk trP_true _) _) _)) i (hi i)) c (by cases c <;>simp)) g hg) (hro i) w0
theorem vFamR (is:List ι) (hi:∀i,i∈is) (ro:Led) (hro:∀i,RoIn ro fun w=>S w i) (p:∀(i:ι) (w:World) (s:Shared) (_ _:Nat),PfS w (S w i) s)
  (H:allN (fun i=>allN (okP (S:=fun w=>S w i) ro (p i)) ws1) is=allN (fun i=>allN (trP (S:=fun w=>S w i) ro (p i)) ws1) is):∀i w,Vd w (S w i):=by
 intro i w
 obtain ⟨g,hg,w0,rfl⟩:=ws1_all w
 exact valid_P (S:=fun w=>S w i) (allN_of (allN_of (H.mpr (allN_mk (fun i=>allN_mk trP_true _) _)) i (hi i)) g hg) (hro i) w0
theorem vFamTR (T:World->ι->Sem Fin) (is:List ι) (hi:∀i,i∈is) (ro:Led) (hro:∀i,RoIn ro fun w=>S w i) (p:∀(i:ι) (w:World) (s:Shared) (_ _:Nat),PfS w (S w i) s)
  (H:allN (fun i=>allN (okT (S:=fun w=>S w i) (fun w=>T w i) ro (p i)) ws1) is=allN (fun i=>allN (trP (S:=fun w=>S w i) ro (p i)) ws1) is):∀i w,OwnS w (S w i) (T w i):=by
 intro i w
 obtain ⟨g,hg,w0,rfl⟩:=ws1_all w
 exact own_P (S:=fun w=>S w i) (T:=fun w=>T w i) (allN_of (allN_of (H.mpr (allN_mk (fun i=>allN_mk trP_true _) _)) i (hi i)) g hg) (hro i) w0
end
section
variable {ι:Type} {C:ι->Prop} {S:World->ι->Summ}
theorem vFamA (is:List ι) (hi:∀i,i∈is) (ro:Led) (hro:∀i,RoIn ro fun w=>S w i) (p:∀(i:ι),C i->∀(w:World) (s:Shared) (_ _:Nat),PfS w (S w i) s)
  (H:allN (fun i=>∀h:C i,allN (okP (S:=fun w=>S w i) ro (p i h)) ws1) is=allN (fun i=>∀h:C i,allN (trP (S:=fun w=>S w i) ro (p i h)) ws1) is):∀i,C i->∀w,Vd w (S w i):=by
 intro i hc w
 obtain ⟨g,hg,w0,rfl⟩:=ws1_all w
 exact valid_P (S:=fun w=>S w i) (allN_of (allN_of (H.mpr (allN_mk (fun i h=>allN_mk trP_true _) _)) i (hi i) hc) g hg) (hro i) w0
theorem vFamB (is:List ι) (hi:∀i,i∈is) (ro:Led) (hro:∀i,RoIn ro fun w=>S w i) (p:∀(i:ι),C i->∀(w:World) (s:Shared) (_ _:Nat),PfS w (S w i) s)
  (H:allN (fun i=>∀h:C i,allN (okP (S:=fun w=>S w i) ro (p i h)) ws1) is=allN (fun i=>∀h:C i,allN (trP (S:=fun w=>S w i) ro (p i h)) ws1) is):∀i w,C i->Vd w (S w i):=by
 intro i w hc
 obtain ⟨g,hg,w0,rfl⟩:=ws1_all w
 exact valid_P (S:=fun w=>S w i) (allN_of (allN_of (H.mpr (allN_mk (fun i h=>allN_mk trP_true _) _)) i (hi i) hc) g hg) (hro i) w0
theorem vFamC (is:List ι) (hi:∀i,i∈is) (ro:Led) (hro:∀i,RoIn ro fun w=>S w i) (p:∀(i:ι),C i->∀(w:World) (s:Shared) (_ _:Nat),PfS w (S w i) s)
  (H:allN (fun i=>∀h:C i,allN (okP (S:=fun w=>S w i) ro (p i h)) ws1) is=allN (fun i=>∀h:C i,allN (trP (S:=fun w=>S w i) ro (p i h)) ws1) is):∀w i,C i->Vd w (S w i):=by
 intro w i hc
 obtain ⟨g,hg,w0,rfl⟩:=ws1_all w
 exact valid_P (S:=fun w=>S w i) (allN_of (allN_of (H.mpr (allN_mk (fun i h=>allN_mk trP_true _) _)) i (hi i) hc) g hg) (hro i) w0
theorem vFamTA (T:World->ι->Sem Fin) (is:List ι) (hi:∀i,i∈is) (ro:Led) (hro:∀i,RoIn ro fun w=>S w i) (p:∀(i:ι),C i->∀(w:World) (s:Shared) (_ _:Nat),PfS w (S w i) s)
  (H:allN (fun i=>∀h:C i,allN (okT (S:=fun w=>S w i) (fun w=>T w i) ro (p i h)) ws1) is=allN (fun i=>∀h:C i,allN (trP (S:=fun w=>S w i) ro (p i h)) ws1) is):∀i,C i->∀w,OwnS w (S w i) (T w i):=by
 intro i hc w
 obtain ⟨g,hg,w0,rfl⟩:=ws1_all w
 exact own_P (S:=fun w=>S w i) (T:=fun w=>T w i) (allN_of (allN_of (H.mpr (allN_mk (fun i h=>allN_mk trP_true _) _)) i (hi i) hc) g hg) (hro i) w0
theorem vFamTB (T:World->ι->Sem Fin) (is:List ι) (hi:∀i,i∈is) (ro:Led) (hro:∀i,RoIn ro fun w=>S w i) (p:∀(i:ι),C i->∀(w:World) (s:Shared) (_ _:Nat),PfS w (S w i) s)
  (H:allN (fun i=>∀h:C i,allN (okT (S:=fun w=>S w i) (fun w=>T w i) ro (p i h)) ws1) is=allN (fun i=>∀h:C i,allN (trP (S:=fun w=>S w i) ro (p i h)) ws1) is):∀i w,C i->OwnS w (S w i) (T w i):=by
 intro i w hc
 obtain ⟨g,hg,w0,rfl⟩:=ws1_all w
 exact own_P (S:=fun w=>S w i) (T:=fun w=>T w i) (allN_of (allN_of (H.mpr (allN_mk (fun i h=>allN_mk trP_true _) _)) i (hi i) hc) g hg) (hro i) w0
end
theorem bools:∀b:Bool,b∈[false,true]:=by decide
def psStrEq {w:World} {G:OblG} {gl:List (Nat×Code)} {bag:Led} (H_:Nat) (a:Str) (t:Nat) (b:Str) (u:Nat) (r:Bool) (h:(a.cps.toList==b.cps.toList)=r) (keep_:LN) (next:∀(_:(sStrEq a t b u r).Res) (_ _:Nat),Pf mask pw w G [] bag):Pf mask pw w G gl bag:=.u H_ (sStrEq a t b u r) [] keep_ (sStrEq_valid h) tt next
noncomputable def compEnv (s:Scope) (o:Env) (loc:Nat) (cells:List (Str×Nat)):Env:=
 {scope:={s with names:=s.names.map fun (n,k)=>if k==.free&&o.scope.kind==.function&&o.kindOf n==some .cell then (n,.cell) else (n,k)},locals:=loc,globals:=o.globals,cells:=cells,qual:=o.qual,func:=none,code:=o.code,frame:=o.frame,builtins:=o.builtins}
noncomputable abbrev iv (n t:Nat):Value:=.int (Int.ofNat n) t
theorem ofNat_bits {a:Nat} (h:a<2^60):Builtin.Int.intBits (Int.ofNat a)<=64:=PySem.intBits_le_64 (by simp;lia) (by simp;lia)
theorem iAdd_valid {w:World} {a t b u v:Nat} (h:a+b=v):Vd w (sT "int.__add__" [iv a t,iv b u] (iv v)):=
 sT_int PySem.F.slot_int_add.plain PySem.F.entry_int_add (gives_int_add _ _ _ _) (by subst h;simp)
def piAdd {w:World} {G:OblG} {gl:List (Nat×Code)} {bag:Led} (H_:Nat) (a t b u v:Nat) (h:a+b=v) (keep_:LN) (next:∀(_:(sT "int.__add__" [iv a t,iv b u] (iv v)).Res) (_ _:Nat),Pf mask pw w G [] bag):Pf mask pw w G gl bag:=.u H_ (sT "int.__add__" [iv a t,iv b u] (iv v)) [] keep_ (iAdd_valid h) tt next
section
variable {w:World} {a t b u v:Nat}
theorem iSub_valid (h:v+b=a):Vd w (sT "int.__sub__" [iv a t,iv b u] (iv v)):=
 sT_int PySem.F.slot_int_sub.plain PySem.F.entry_int_sub (gives_int_sub _ _ _ _) (by subst h;simp)
theorem iMul_valid (h:a*b=v) (ha:a<2^60):Vd w (sT "int.__mul__" [iv a t,iv b u] (iv v)):=
 sT_int PySem.F.slot_int_mul.plain PySem.F.entry_int_mul (gives_int_mul _ _ _ _ (IntMulOk.of_left (ofNat_bits ha))) (by subst h;simp)
theorem iMod_valid (hb:b≠0) (h:a%b=v):Vd w (sT "int.__mod__" [iv a t,iv b u] (iv v)):=
 sT_int PySem.F.slot_int_mod.plain PySem.F.entry_int_mod (AutoIntG6.int___mod___int_int_1 _ _ _ _ (by simpa using hb)) (by subst h;exact (Int.ofNat_fmod a b).symm)
end
def piMod {w:World} {G:OblG} {gl:List (Nat×Code)} {bag:Led} (H_:Nat) (a t b u v:Nat) (hb:b≠0) (h:a%b=v) (keep_:LN) (next:∀(_:(sT "int.__mod__" [iv a t,iv b u] (iv v)).Res) (_ _:Nat),Pf mask pw w G [] bag):Pf mask pw w G gl bag:=.u H_ (sT "int.__mod__" [iv a t,iv b u] (iv v)) [] keep_ (iMod_valid hb h) tt next
theorem iModI_valid {w:World} {a:Int} {t b u v:Nat} (hb:b≠0) (h:a.fmod (Int.ofNat b)=Int.ofNat v):Vd w (sT "int.__mod__" [.int a t,iv b u] (iv v)):=
 sT_int PySem.F.slot_int_mod.plain PySem.F.entry_int_mod (AutoIntG6.int___mod___int_int_1 _ _ _ _ (by simpa using hb)) h
theorem iDiv_valid {w:World} {a t b u v:Nat} (hb:b≠0) (hb2:b<2^60) (h:a/b=v):Vd w (sT "int.__floordiv__" [iv a t,iv b u] (iv v)):=
 sT_int PySem.F.slot_int_floordiv.plain PySem.F.entry_int_floordiv (AutoIntG4.int___floordiv___int_int_1 _ _ _ _ (by simpa using hb) (by
  unfold Builtin.divisionGoesByPylong
  have h0:((Int.ofNat b==0)=true)↔False:=by simp [hb]
  have:(Int.ofNat b).natAbs.log2<=60:=by
   show Nat.log2 b<=60
   have:=(Nat.log2_lt hb).mpr hb2
   lia
  simp only [Bool.and_eq_true,decide_eq_true_eq]
  intro h
  rw [if_neg (by simp [hb])] at h
  lia)) (by subst h;exact (Int.ofNat_fdiv a b).symm)
def piDiv {w:World} {G:OblG} {gl:List (Nat×Code)} {bag:Led} (H_:Nat) (a t b u v:Nat) (hb:b≠0) (hb2:b<2^60) (h:a/b=v) (keep_:LN) (next:∀(_:(sT "int.__floordiv__" [iv a t,iv b u] (iv v)).Res) (_ _:Nat),Pf mask pw w G [] bag):Pf mask pw w G gl bag:=.u H_ (sT "int.__floordiv__" [iv a t,iv b u] (iv v)) [] keep_ (iDiv_valid hb hb2 h) tt next
theorem iPow8_valid {w:World} {k t u v:Nat} (hk:k<=2) (h:8^k=v):Vd w (sT "int.__pow__" [iv 8 t,iv k u] (iv v)):=by
 subst h
 match k,hk with
 | 0,_=>exact sT_int PySem.F.slot_int_pow.plain PySem.F.entry_int_pow (AutoIntG9.int___pow___int_int_0 _ _ _ _ (by decide) (by decide)) rfl
 | 1,_=>exact sT_int PySem.F.slot_int_pow.plain PySem.F.entry_int_pow (AutoIntG2.int___pow___int_int_4 _ _ _ _ (by decide) (by decide) (by decide) (by decide) (by decide +kernel)) rfl
 | 2,_=>exact sT_int PySem.F.slot_int_pow.plain PySem.F.entry_int_pow (AutoIntG2.int___pow___int_int_4 _ _ _ _ (by decide) (by decide) (by decide) (by decide) (by decide +kernel)) rfl
theorem iAnd63_valid {w:World} {a t u v:Nat} (h:a%64=v):Vd w (sT "int.__and__" [iv a t,iv 63 u] (iv v)):=
 sT_int PySem.F.slot_int_and.plain PySem.F.entry_int_and (i':=Builtin.bitAnd (Int.ofNat a) 63) (.of_eq rfl) (by rw [bitAnd_m6];subst h;simp)
theorem and64 (a:Nat) (h:a<128):a&&&64=if a<64 then 0 else 64:=by
 have:∀a,a<128->a&&&64=if a<64 then 0 else 64:=by decide
 exact this a h
theorem iAnd64_valid {w:World} {a t u v:Nat} (ha:a<128) (h:v=if a<64 then 0 else 64):Vd w (sT "int.__and__" [iv a t,iv 64 u] (iv v)):=
 sT_int PySem.F.slot_int_and.plain PySem.F.entry_int_and (i':=Builtin.bitAnd (Int.ofNat a) 64) (.of_eq rfl) (by
  unfold Builtin.bitAnd
  have h1:decide (0<=Int.ofNat a)=true:=by simp
  have h2:decide ((0:Int)<=64)=true:=by decide
  rw [h1,h2]
  show (((Int.ofNat a).toNat&&&(64:Int).toNat:Nat):Int)=_
  rw [h,←and64 a ha];rfl)
theorem iOr_valid {w:World} {a t b u v:Nat} (hb:b<64) (h:64*a+b=v):Vd w (sT "int.__or__" [iv (64*a) t,iv b u] (iv v)):=
 sT_int PySem.F.slot_int_or.plain PySem.F.entry_int_or (i':=Builtin.bitOr (Int.ofNat (64*a)) (Int.ofNat b)) (.of_eq rfl) (by
  have e:∀x y:Nat,Builtin.bitOr (Int.ofNat x) (Int.ofNat y)=Int.ofNat (x||| y):=fun x y=>by
   unfold Builtin.bitOr Builtin.bitAnd
   have h1:∀x:Nat,decide (0<=Builtin.bitNot (Int.ofNat x))=false:=fun x=>by unfold Builtin.bitNot;simp;lia
   have h2:∀x:Int,Builtin.bitNot (Builtin.bitNot x)=x:=fun x=>by unfold Builtin.bitNot;lia
   rw [h1,h1]
   simp only [h2]
   rfl
  rw [e,←h]
  have:=Nat.two_pow_add_eq_or_of_lt (i:=6) (b:=b) hb a
  rw [←this])
theorem iShl6_valid {w:World} {a t u v:Nat} (ha:a<2^60) (h:64*a=v):Vd w (sT "int.__lshift__" [iv a t,iv 6 u] (iv v)):=by
 subst h
 by_cases h0:a=0
 ·subst h0
  exact sT_int PySem.F.slot_int_lshift.plain PySem.F.entry_int_lshift (AutoIntG6.int___lshift___int_int_1 _ _ _ _ (by decide) (by decide)) rfl
 ·refine valid_b rfl PySem.F.slot_int_lshift.plain PySem.F.entry_int_lshift fun A s room base need imm=>?_
  have hb:=ofNat_bits ha
  have key:∀n:Int,n=6->wpAny (model pw w) A.in1 (Builtin.«int.__lshift__» ⟨[iv a t,.int n u],[]⟩) (fun fin s'=>∃r,fin=.done (.ret r)/\Post (sT "int.__lshift__" [iv a t,iv 6 u] (iv (64*a))) s (.ok (.ret r)) s') (fun e s'=>Post (sT "int.__lshift__" [iv a t,iv 6 u] (iv (64*a))) s (.error e) s') s:=by
   intro n hn
   show wpAny _ _ (if n<0 then _ else _) _ _ s
   rw [if_neg (by lia)]
   show wpAny _ _ (if (Int.ofNat a==0)=true then _ else _) _ _ s
   rw [if_neg (by simpa using h0)]
   have h3:¬(((Builtin.Int.intBits (Int.ofNat a):Int)+29)/30+n/30+(if n%30==0 then 0 else 1)>Builtin.maxDigits):=by
    unfold Builtin.maxDigits
    split <;>lia
   show wpAny _ _ (if ((Builtin.Int.intBits (Int.ofNat a):Int)+29)/30+n/30+(if n%30==0 then 0 else 1)>Builtin.maxDigits then _ else _) _ _ s
   rw [if_neg h3]
   have hbig:Builtin.Int.intTooBig ((Builtin.Int.intBits (Int.ofNat a):Int)+n)=false:=decide_eq_false (Int.not_lt.mpr (by
    show (Builtin.Int.intBits (Int.ofNat a):Int)+n<=2^27
    lia))
   show wpAny _ _ (if Builtin.Int.intTooBig ((Builtin.Int.intBits (Int.ofNat a):Int)+n)=true then _ else _) _ _ s
   rw [if_neg (by rw [hbig];exact Bool.false_ne_true)]
   have e:(Int.ofNat a*2^n.toNat:Int)=Int.ofNat (64*a):=by
    rw [hn]
    show (a:Int)*64=((64*a:Nat):Int)
    lia
   rw [e]
   refine wpAny_bind (wpAny_mkInt (wpAny_pure ?_))
   exact ⟨_,rfl,s.toks,trivial,rfl,rfl,out_nil rfl rfl rfl⟩
  exact key _ rfl
theorem iEq_valid {w:World} {a t b u:Nat} {r:Bool} (h:(a==b)=r):Vd w (sV "int.__eq__" [iv a t,iv b u] (.bool r)):=
 sV_valid PySem.F.slot_int_eq.plain PySem.F.entry_int_eq (gives_int_eq _ _ _ _) (by subst h;congr 1;show (decide ((a:Int)=(b:Int)))=decide (a=b);simp only [Int.ofNat_inj])
def piEq {w:World} {G:OblG} {gl:List (Nat×Code)} {bag:Led} (H_:Nat) (a t b u:Nat) (r:Bool) (h:(a==b)=r) (keep_:LN) (next:∀(_:(sV "int.__eq__" [iv a t,iv b u] (.bool r)).Res) (_ _:Nat),Pf mask pw w G [] bag):Pf mask pw w G gl bag:=.u H_ (sV "int.__eq__" [iv a t,iv b u] (.bool r)) [] keep_ (iEq_valid h) tt next
theorem iNe_valid {w:World} {a:Int} {t:Nat} {b:Int} {u:Nat} {r:Bool} (h:(a !=b)=r):Vd w (sV "int.__ne__" [.int a t,.int b u] (.bool r)):=
 sV_valid PySem.F.slot_int_ne.plain PySem.F.entry_int_ne (gives_int_ne _ _ _ _) (by subst h;rfl)
section
variable {w:World} {a t b u:Nat} {r:Bool}
theorem iLt_valid (h:decide (a<b)=r):Vd w (sV "int.__lt__" [iv a t,iv b u] (.bool r)):=
 sV_valid PySem.F.slot_int_lt.plain PySem.F.entry_int_lt (gives_int_lt _ _ _ _) (by subst h;simp)
theorem iGt_valid (h:decide (a>b)=r):Vd w (sV "int.__gt__" [iv a t,iv b u] (.bool r)):=
 sV_valid PySem.F.slot_int_gt.plain PySem.F.entry_int_gt (gives_int_gt _ _ _ _) (by subst h;simp)
end
section
variable {M:Model} {A:Around}
theorem noComps_le {body:List Stmt} {env:Env}:Le M A (.func body env) (pure []) comprehensionsAround:=fun Γ p s Q E hc hΓ h=>by
 unfold comprehensionsAround callersCodes
 rw [Sem.wp_bind',Sem.wp_bind']
 show Sem.wp M Γ (Sem.stack _) _ _ p s
 rw [Sem.wp]
 show Sem.wp M Γ _ _ _ p s
 rw [hc]
 have e:pastTheWaiting ((.func body env,p)::Γ.below)=(.func body env,p)::pastTheWaiting.go false (some (.func body env)) Γ.below:=rfl
 have e2:(((((.func body env,p)::Γ.below).map (·.1)).findSome? (·.env?)).map (·.frame) !=(((pastTheWaiting ((.func body env,p)::Γ.below)).map (·.1)).findSome? (·.env?)).map (·.frame))=false:=by
  rw [e]
  show (some env.frame !=some env.frame)=false
  simp
 rw [Sem.wp]
 rw [if_neg (by rw [e2];exact Bool.false_ne_true)]
 rw [e]
 exact h
theorem Le.unsupported {α:Type} {c:Code} {t:Sem α} (m:String):Le M A c (PySem.unsupported m:Sem α) t:=fun Γ p s Q E hc hΓ h=>by
 exact absurd h (by show ¬Sem.wp M Γ (Sem.unsupported m) Q E p s;rw [Sem.wp];exact id)
theorem Le.at_pure {α β:Type} {c:Code} {m:Sem α} {a:α} {f:α->Sem β} {t:Sem β} (h:Le M A c (pure a) m) (hf:Le M A c t (f a)):Le M A c t (m>>=f):=fun Γ p s Q E hc hΓ hw=>by
 rw [Sem.wp_bind']
 exact h Γ p s _ _ hc hΓ (show Sem.wp M Γ (f a) Q E p s from hf Γ p s Q E hc hΓ hw)
noncomputable def superT (env:Env) (f:Addr) (pos:Pos):Sem Value:=do
 let fd ←funcData (.ref f)
 match (fd.params.posonlyargs++fd.params.args).head? with
 | none=>PySem.unsupported "no"
 | some first=>
  let sett ←ask
  match env.code with
  | .none=>PySem.unsupported "no"
  | c=>do
   let v ←field c 2
   match v with
   | .str file _=>
    match sett.program.main.file==file with
    | false=>PySem.unsupported "no"
    | true=>match (sett.program.main.scope.names.lookup ("super":Str)).isSome with
     | true=>PySem.unsupported "no"
     | false=>do
      rule "super.attribute-form"
      standAt pos
      let g ←loadName env "super"
      let cls ←loadName env "__class__"
      let self ←loadName (env.holderOf [] first.arg) first.arg
      let b ←isType cls
      match g==.type "super"&&b with
      | true=>call g [cls,self]
      | false=>PySem.unsupported "no"
   | _=>PySem.unsupported "no"
theorem superT_le {body:List Stmt} {env:Env} {p0 p1:Pos} {attr:Str} {whole:Sem Value} {f:Addr} (hks:env.kindOf "super"=some .globalImplicit) (hkc:env.kindOf "__class__"=some .free) (hat:(attr==("__class__":Str))=false) (hfu:env.func=some f):
  Le M A (.func body env) (superT env f p1) (attributeBase (.Call (.Name "super" p0) [] [] p1) attr env whole):=by
 unfold attributeBase superT
 simp only [bne_self_eq_false,hat,hks,hkc,hfu,Bool.or_false,Bool.or_self,Bool.false_eq_true,if_false,Option.isSome_some,if_true,pure_bind]
 refine Le.bind (Le.refl _) fun fd=>?_
 cases (fd.params.posonlyargs++fd.params.args).head? with
 | none=>exact Le.unsupported _
 | some first=>
  refine Le.bind (Le.refl _) fun sett=>?_
  cases hcode:env.code <;>simp only [pure_bind] <;>first | exact Le.unsupported _ | skip
  all_goals
   refine Le.bind (Le.refl _) fun v=>?_
   cases v <;>first | exact Le.unsupported _ | skip
   rename_i file tok
   dsimp only
   cases hm:(sett.program.main.file==file) with
   | false=>exact Le.unsupported _
   | true=>
    simp only [if_true]
    cases hs:(sett.program.main.scope.names.lookup ("super":Str)).isSome with
    | true=>exact Le.unsupported _
    | false=>
     simp only [Bool.false_eq_true,if_false]
     refine Le.bind (Le.refl _) fun _=>Le.bind (Le.refl _) fun _=>Le.bind (Le.refl _) fun g=>Le.bind (Le.refl _) fun cls=>?_
     refine Le.at_pure noComps_le (Le.bind (Le.refl _) fun self=>Le.bind (Le.refl _) fun b=>?_)
     cases hb:(g==Value.type "super"&&b) with
     | true=>simp only [if_true];exact Le.refl _
     | false=>exact Le.unsupported _
end
def superCallT (env:Env) (f:Addr) (o:Expr) (p1:Pos) (nm:Str) (p2 p3:Pos):Sem Value:=do
 let ov ←superT env f p1
 standAt p2.atName
 methodCall o nm p2 p3 env ov 0 [] []
noncomputable def seqT (t:Sem Flow) (r:Sem Flow):Sem Flow:=do match ←t with | .next=>r | f=>pure f
theorem superCallT_le {M:Model} {A:Around} {body:List Stmt} {env:Env} {p0 p1 p2 p3:Pos} {nm:Str} {f:Addr} (hks:env.kindOf "super"=some .globalImplicit) (hkc:env.kindOf "__class__"=some .free) (hat:(nm==("__class__":Str))=false) (hfu:env.func=some f):
  Le M A (.func body env) (superCallT env f (.Call (.Name "super" p0) [] [] p1) p1 nm p2 p3) (eval (.Call (.Attribute (.Call (.Name "super" p0) [] [] p1) nm p2) [] [] p3) env):=
 Le.bind (m':=attributeBase (.Call (.Name "super" p0) [] [] p1) nm env (eval (.Call (.Name "super" p0) [] [] p1) env)) (superT_le hks hkc hat hfu) fun ov=>Le.bind (Le.refl _) fun _=>Le.refl _
theorem seqT_le {M:Model} {A:Around} {c:Code} {t t' r r':Sem Flow} (h:Le M A c t t') (hr:Le M A c r r'):Le M A c (seqT t r) (seqT t' r'):=
 Le.bind h fun f=>by cases f <;>first | exact hr | exact Le.refl _
noncomputable def returnT (pos:Pos) (t:Sem Value):Sem Flow:=do standAt pos;return .ret (←t)
theorem returnT_le {M:Model} {A:Around} {c:Code} {env:Env} {t:Sem Value} {e:Expr} {pos:Pos} (h:Le M A c t (eval e env)):Le M A c (returnT pos t) (exec (.Return (some e) pos) env):=
 Le.bind (Le.refl _) fun _=>Le.bind h fun _=>Le.refl _
noncomputable def exprT (pos:Pos) (e:Expr) (t:Sem Value):Sem Flow:=do standAt pos;let v ←t;dropValue e pos v
theorem exprT_le {M:Model} {A:Around} {c:Code} {env:Env} {t:Sem Value} {e:Expr} {pos:Pos} (h:Le M A c t (eval e env)) (hi:interactive env=false:=by rfl) (hs:swapsWith e none pos.line env=pure false:=by rfl):Le M A c (exprT pos e t) (exec (.Expr e pos) env):=by
 rw [exec_Expr env e pos hi hs]
 exact Le.bind (Le.refl _) fun _=>Le.bind h fun _=>Le.refl _
noncomputable def su (p0 p1:Pos):Expr:=.Call (.Name "super" p0) [] [] p1
def t204 (env:Env):Sem Fin:=funcT (seqT (returnT ⟨125,8,125,32⟩ (superCallT env 204 (su ⟨125,15,125,20⟩ ⟨125,15,125,22⟩) ⟨125,15,125,22⟩ "__len__" ⟨125,15,125,30⟩ ⟨125,15,125,32⟩)) (execs [] env)) env
def t167 (st:Stmt) (env:Env):Sem Fin:=funcT (seqT (exec st env) (seqT (returnT ⟨107,8,107,28⟩ (superCallT env 167 (su ⟨107,15,107,20⟩ ⟨107,15,107,22⟩) ⟨107,15,107,22⟩ "pop" ⟨107,15,107,26⟩ ⟨107,15,107,28⟩)) (execs [] env))) env
def t144 (st:Stmt) (env:Env):Sem Fin:=funcT (seqT (exec st env) (seqT (exprT ⟨94,8,94,26⟩ (.Call (.Attribute (su ⟨94,8,94,13⟩ ⟨94,8,94,15⟩) "__init__" ⟨94,8,94,24⟩) [] [] ⟨94,8,94,26⟩) (superCallT env 144 (su ⟨94,8,94,13⟩ ⟨94,8,94,15⟩) ⟨94,8,94,15⟩ "__init__" ⟨94,8,94,24⟩ ⟨94,8,94,26⟩)) (execs [] env))) env
end Mine
lay_z Mine.t204
lay_z Mine.t167
lay_z Mine.t144
namespace Mine
section
variable {prog:Program} {w:World} {A:Around} {c:Code}
theorem Le.holding {α:Type} {M:Model} {A:Around} {c:Code} {vs:LV} {t t':Sem α} (h:Le M A c t t'):Le M A c (PySem.holding vs t) (PySem.holding vs t'):=fun Γ p s Q E hc hΓ hw=>by
 rw [Sem.wp_holding] at hw ⊢
 exact h Γ p s Q E hc hΓ hw
def genT (elt target iter:Expr) (scope:Scope) (pos:Pos) (env:Env):Sem Value:=do
 let x ←eval iter env
 standAt iter.pos
 let x ←genFold iter env x
 let it ←holding [x] (pyIter x)
 efT
 let cl ←closureFor scope env
 let code ←genexprCode env pos (env.qual++"<genexpr>") scope
 let bi ←builtinsFor env.globals env.builtins
 let cenv ←newFunctionEnv scope env.globals cl [(".0",it)] (env.qual++"<genexpr>.") none code none bi
 newGenerator (.compStart (.GeneratorExp elt [⟨target,iter,[],0⟩] scope pos) 0 it .none cenv) "<genexpr>" (env.qual++"<genexpr>")
theorem genT_le {elt target iter:Expr} {scope:Scope} {pos:Pos} {env:Env} (hd:A.depth<recursionLimit) (hco:scope.isCoroutine=false):
  Le (model prog w) A c (genT elt target iter scope pos env) (eval (.GeneratorExp elt [⟨target,iter,[],0⟩] scope pos) env):=by
 rw [eval_GeneratorExp1 _ _ _ _ _ _ _ hco]
 unfold genT
 refine Le.bind (Le.refl _) fun _=>Le.bind (Le.refl _) fun _=>Le.bind (Le.refl _) fun _=>Le.bind (Le.refl _) fun _=>Le.bind ?_ fun _=>Le.refl _
 exact fun Γ p s Q E hc hΓ h=>wp_ef hΓ hd h
theorem spliced_le {M:Model} {t t':Sem Value} {r:List (Bool×Sem Value)} (h:Le M A c t t'):Le M A c (spliced ((false,t)::r)) (spliced ((false,t')::r)):=
 Le.bind h fun _=>Le.refl _
theorem callWith_le {M:Model} {pos:Pos} {f:Value} {first:LV} {t t':Sem Value} {r:List (Bool×Sem Value)} (h:Le M A c t t'):Le M A c (callWith pos f first ((false,t)::r) []) (callWith pos f first ((false,t')::r) []):=by
 unfold callWith
 refine Le.bind (Le.holding ?_) fun a=>Le.of_eq rfl
 unfold evalArgs
 exact Le.bind (m:=spliced ((false,t)::r)) (m':=spliced ((false,t')::r)) (spliced_le h) fun _=>Le.refl _
theorem methodCall_le {M:Model} {o:Expr} {name:Str} {apos pos:Pos} {env:Env} {ov:Value} {n:Nat} {t t':Sem Value} {r:List (Bool×Sem Value)} (h:Le M A c t t'):Le M A c (methodCall o name apos pos env ov n ((false,t)::r) []) (methodCall o name apos pos env ov n ((false,t')::r) []):=by
 unfold methodCall
 exact Le.bind (Le.of_eq rfl) fun _=>Le.bind (Le.of_eq rfl) fun _=>callWith_le h
end
noncomputable def nmE (s:Str) (a b c d:Nat):Expr:=.Name s ⟨a,b,c,d⟩
def elt174:Expr:=.BinOp (.Call (nmE "len" 110 20 110 23) [nmE "fws" 110 24 110 27] [] ⟨110,20,110,28⟩) .Add (.Call (nmE "len" 110 31 110 34) [nmE "part" 110 35 110 39] [] ⟨110,31,110,40⟩) ⟨110,20,110,40⟩
def tgt174:Expr:=.Tuple [nmE "fws" 110 45 110 48,nmE "part" 110 50 110 54] 0 ⟨110,45,110,54⟩
noncomputable def sc174:Scope:=⟨.function,[(".0",.local),("fws",.local),("part",.local),("len",.globalImplicit)],true,false,[]⟩
def attr174:Expr:=.Attribute (nmE "self" 110 65 110 69) "_initial_size" ⟨110,65,110,83⟩
def stmt174:Stmt:=.Return (some (.Call (nmE "sum" 110 15 110 18) [.GeneratorExp elt174 [⟨tgt174,nmE "self" 110 58 110 62,[],0⟩] sc174 ⟨110,19,110,63⟩,attr174] [] ⟨110,15,110,84⟩)) ⟨110,8,110,84⟩
theorem body174 (w:World):fnBody w 174=[stmt174]:=by kernel_rfl
def t174 (env:Env):Sem Fin:=funcT (seqT (returnT ⟨110,8,110,84⟩ (do
 callWith ⟨110,15,110,84⟩ (←eval (nmE "sum" 110 15 110 18) env) [] [(false,genT elt174 tgt174 (nmE "self" 110 58 110 62) sc174 ⟨110,19,110,63⟩ env),(false,eval attr174 env)] [])) (execs [] env)) env
theorem t174_le {prog:Program} {w:World} {A:Around} {c:Code} {env:Env} (hd:A.depth<recursionLimit):Le (model prog w) A c (t174 env) (denote table (.func [stmt174] env)):=by
 rw [funcT_eq]
 refine funcT_le ?_
 refine seqT_le (returnT_le ?_) (Le.refl _)
 exact Le.bind (Le.refl _) fun f=>callWith_le (genT_le hd rfl)
def elt181:Expr:=.Call (.Attribute (nmE "EMPTYSTRING" 113 33 113 44) "join" ⟨113,33,113,49⟩) [.Tuple [nmE "fws" 113 51 113 54,nmE "part" 113 56 113 60] 0 ⟨113,50,113,61⟩] [] ⟨113,33,113,62⟩
def tgt181:Expr:=.Tuple [nmE "fws" 113 67 113 70,nmE "part" 113 72 113 76] 0 ⟨113,67,113,76⟩
noncomputable def sc181:Scope:=⟨.function,[(".0",.local),("fws",.local),("part",.local),("EMPTYSTRING",.globalImplicit)],true,false,[]⟩
def stmt181:Stmt:=.Return (some (.Call (.Attribute (nmE "EMPTYSTRING" 113 15 113 26) "join" ⟨113,15,113,31⟩) [.GeneratorExp elt181 [⟨tgt181,nmE "self" 113 80 113 84,[],0⟩] sc181 ⟨113,32,113,85⟩] [] ⟨113,15,113,86⟩)) ⟨113,8,113,86⟩
theorem body181 (w:World):fnBody w 181=[stmt181]:=by kernel_rfl
def t181 (env:Env):Sem Fin:=funcT (seqT (returnT ⟨113,8,113,86⟩ (do
 let ov ←attributeBase (nmE "EMPTYSTRING" 113 15 113 26) "join" env (eval (nmE "EMPTYSTRING" 113 15 113 26) env)
 standAt (Pos.atName ⟨113,15,113,31⟩)
 methodCall (nmE "EMPTYSTRING" 113 15 113 26) "join" ⟨113,15,113,31⟩ ⟨113,15,113,86⟩ env ov 1 [(false,genT elt181 tgt181 (nmE "self" 113 80 113 84) sc181 ⟨113,32,113,85⟩ env)] [])) (execs [] env)) env
theorem t181_le {prog:Program} {w:World} {A:Around} {c:Code} {env:Env} (hd:A.depth<recursionLimit):Le (model prog w) A c (t181 env) (denote table (.func [stmt181] env)):=by
 rw [funcT_eq]
 refine funcT_le ?_
 refine seqT_le (returnT_le ?_) (Le.refl _)
 exact Le.bind (Le.refl _) fun ov=>Le.bind (Le.refl _) fun _=>methodCall_le (genT_le hd rfl)
end Mine
lay_z Mine.t174
lay_z Mine.t181
namespace Mine
noncomputable def accO (d:Nat) (xs:LV) (ep:Nat):Obj:={cls:=.ref 207,dict:=some d,data:=.seq xs.toArray ep}
def accD (w:World) (q:Nat) (tn:Nat):Obj:=dictO w [("_initial_size",q,.int 0 tn)] 1
structure Chunk where
 at_:Nat
 f:LN
 tf:Nat
 p:LN
 tp:Nat
noncomputable abbrev LC:=List Chunk
def Chunk.led (c:Chunk):Nat×Obj:=(c.at_,tup [.str (st c.f) c.tf,.str (st c.p) c.tp])
noncomputable def accXs (C:LC):LV:=C.map fun c=>.ref c.at_
def accLed (C:LC):Led:=C.map Chunk.led
noncomputable def accLen (C:LC):Nat:=(C.map fun c=>c.f.length+c.p.length).sum
noncomputable def accTx (C:LC):LN:=C.flatMap fun c=>c.f++c.p
theorem seq_ix {i n:Nat} (h:i<n):seqIndex? (Int.ofNat i) n=some i:=by
 unfold seqIndex?;simp;lia
theorem seq_m {n:Nat}:seqIndex? (-1) (n+1)=some n:=by
 simp [seqIndex?];lia
theorem fits_nat (i:Nat) (h:i<=100000):Builtin.List.listFitsIndex (Int.ofNat i)=true:=by
 unfold Builtin.List.listFitsIndex;simp;lia
noncomputable def seqO (c:Value) (d:ON) (xs:LV) (ep:Nat):Obj:={cls:=c,dict:=d,data:=.seq xs.toArray ep}
def sAppend (c:Value) (d:ON) (a:Nat) (xs:LV) (ep:Nat) (v:Value):Summ where
 code:=.builtin "list.append" ⟨[.ref a,v],[]⟩
 need:=[(a,seqO c d xs ep)]
 Res:=Nat
 res:=fun _=>.ok (.ret .none)
 upd:=fun x=>[seqO c d (xs++[v]) x]
 d:=5
 u:=10
theorem past_seq {xs:Array Value} {n:Nat} (h:xs.size<=sizeLine):(Data.seq xs n).pastItsLine=none:=by
 unfold Data.pastItsLine
 simp only [gt_iff_lt,ite_eq_right_iff]
 lia
theorem out_one' {s:Shared} {a:Nat} {o o':Obj} {f:Obj->Obj} {tk:Nat} (ho:s.heap.get? a=some o) (hf:f o=o') (hz:o'.isFreed=false):Out s {s with heap:=s.heap.update a f,toks:=tk} ([(a,o)].map (·.1)) (rezip [(a,o)] [o']) [] []:=
 out_one (o:=o) (Heap.SameBut.update ..) rfl rfl ((Heap.get?_update_self _ ho (by rw [hf];exact hz)).trans (by rw [hf]))
theorem sAppend_valid {w:World} {c:Value} {d:ON} {a:Nat} {xs:LV} {ep:Nat} {v:Value} (h:xs.length<=100000):Vd w (sAppend c d a xs ep v):=
 valid_b rfl PySem.F.slot_list_append.plain PySem.F.entry_list_append fun A s room base need imm=>by
  have ho:s.heap.get? a=some ⟨c,d,.seq xs.toArray ep,#[]⟩:=need _ (.head _)
  have hp:∀n,(Data.seq (xs.toArray.push v) n).pastItsLine=none:=fun n=>past_seq (by rw [sizeLine_eq];simp;exact leT ‹_› rfl)
  show wpAny _ A.in1 (Builtin.«list.append» ⟨[.ref a,v],[]⟩) _ _ s
  unfold Builtin.«list.append»
  wp_walk
  simp only [Obj.mapSeq,hp]
  wp_walk
  exact ⟨_,rfl,_,trivial,rfl,rfl,out_one' ho (by simp [Obj.mapSeq,seqO];rfl) rfl⟩
def psAppend {w:World} {G:OblG} {gl:List (Nat×Code)} {bag:Led} (H_:Nat) (c:Value) (d:ON) (a:Nat) (xs:LV) (ep:Nat) (v:Value) (h:xs.length<=100000) (at_:LN) (keep_:LN) (next:∀(_:(sAppend c d a xs ep v).Res) (_ _:Nat),Pf mask pw w G [] bag):Pf mask pw w G gl bag:=.u H_ (sAppend c d a xs ep v) at_ keep_ (sAppend_valid h) tt next
def sPopLast (c:Value) (d:ON) (a:Nat) (xs:LV) (v:Value) (ep:Nat):Summ where
 code:=.builtin "list.pop" ⟨[.ref a],[]⟩
 need:=[(a,seqO c d (xs++[v]) ep)]
 Res:=Nat
 res:=fun _=>.ok (.ret v)
 upd:=fun x=>[seqO c d xs x]
 d:=5
 u:=10
theorem sPopLast_valid {w:World} {c:Value} {d:ON} {a:Nat} {xs:LV} {v:Value} {ep:Nat} (h:xs.length<=100000):Vd w (sPopLast c d a xs v ep):=
 valid_b rfl PySem.F.slot_list_pop.plain PySem.F.entry_list_pop fun A s room base need imm=>by
  have ho:s.heap.get? a=some ⟨c,d,.seq (xs++[v]).toArray ep,#[]⟩:=need _ (.head _)
  have hs:(xs++[v]).toArray.size<=sizeLine:=by rw [sizeLine_eq];simp;exact leT ‹_› rfl
  have hk:seqIndex? (-1) (xs++[v]).toArray.size=some xs.length:=by rw [List.size_toArray,List.length_append];exact seq_m
  have hy:(xs++[v]).toArray[xs.length]? =some v:=by simp
  have hne:¬(xs++[v]).toArray.isEmpty=true:=by simp
  have hz:((xs++[v]).toArray.eraseIdxIfInBounds xs.length).size<=sizeLine+1:=Nat.le_trans (PySem.MeetsSeq.size_erased _ _) (Nat.le_succ_of_le hs)
  have hp:∀n,(Data.seq ((xs++[v]).toArray.eraseIdxIfInBounds xs.length) n).pastItsLine=none:=fun n=>by
   unfold Data.pastItsLine;simp only [gt_iff_lt,ite_eq_right_iff];lia
  have he:(xs++[v]).toArray.eraseIdxIfInBounds xs.length=xs.toArray:=by
   simp [Array.eraseIdxIfInBounds,List.eraseIdx_append]
  show wpAny _ A.in1 (Builtin.«list.pop» ⟨[.ref a],[]⟩) _ _ s
  unfold Builtin.«list.pop»
  wp_walk using wpAny_loadPart' ho
  simp only [hk,hy,Option.bind_some,Option.map_some]
  wp_walk
  simp only [Obj.mapSeq,hp]
  wp_walk
  exact ⟨_,rfl,_,trivial,rfl,rfl,out_one' ho (by simp only [Obj.mapSeq,seqO,he];rfl) rfl⟩
def sGetInt (c:Value) (d:ON) (a:Nat) (xs:LV) (ep:Nat) (i:Int) (t:Nat) (v:Value):Summ where
 code:=.builtin "list.__getitem__" ⟨[.ref a,.int i t],[]⟩
 need:=[(a,seqO c d xs ep)]
 Res:=Unit
 res:=fun _=>.ok (.ret v)
 upd:=fun _=>[seqO c d xs ep]
 d:=5
 u:=10
theorem sGetInt_valid {w:World} {c:Value} {d:ON} {a:Nat} {xs:LV} {ep:Nat} {i:Int} {t:Nat} {v:Value} (k:Nat) (hk:seqIndex? i xs.length=some k) (hv:xs[k]? =some v) (hf:Builtin.List.listFitsIndex i=true):Vd w (sGetInt c d a xs ep i t v):=
 valid_b rfl PySem.F.slot_list_getitem.plain PySem.F.entry_list_getitem fun A s room base need imm=>by
  have ho:s.heap.get? a=some ⟨c,d,.seq xs.toArray ep,#[]⟩:=need _ (.head _)
  have hl:=PySem.F.slot_int_index.lookup
  have hf':¬(!Builtin.List.listFitsIndex i)=true:=by simp [hf]
  have fin:∀s':Shared,s'=s->∃r,Fin.done (Flow.ret v)=Fin.done (Flow.ret r)/\Post (sGetInt c d a xs ep i t v) s (Except.ok (Flow.ret r)) s':=fun s' e=>by
   subst e;exact ⟨_,rfl,(),trivial,rfl,rfl,out_same (need:=[(a,seqO c d xs ep)]) rfl rfl rfl need⟩
  show wpAny _ A.in1 (Builtin.«list.__getitem__» ⟨[.ref a,.int i t],[]⟩) _ _ s
  unfold Builtin.«list.__getitem__»
  wp_walk using wpAny_loadPart' ho
  cases i with
  | ofNat n=>
   have hk':xs.toArray[n]? =some v:=by
    have:k=n:=by
     unfold seqIndex? at hk
     have:¬(Int.ofNat n<0):=by simp
     simp only [this,if_false] at hk
     split at hk
     ·cases hk;rfl
     ·cases hk
    subst this;simpa using hv
   clear hf hf' hk
   wp_walk using wpAny_loadPart' ho
   simp only [hk']
   wp_walk
   exact fin _ rfl
  | negSucc n=>
   refine wpAny_bind (m:=Builtin.List.listItems (.ref a)) (PySem.wpAny_listItems ho rfl (wpAny_pure ?_))
   simp only [List.size_toArray,hk,Option.bind_some,List.getElem?_toArray,hv,Option.map_some]
   wp_walk
   exact fin _ rfl
def psGetInt {w:World} {G:OblG} {gl:List (Nat×Code)} {bag:Led} (H_:Nat) (c:Value) (d:ON) (a:Nat) (xs:LV) (ep:Nat) (i:Int) (t:Nat) (v:Value) (k:Nat) (hk:seqIndex? i xs.length=some k) (hv:xs[k]? =some v) (hf:Builtin.List.listFitsIndex i=true) (at_:LN) (keep_:LN) (next:∀(_:(sGetInt c d a xs ep i t v).Res) (_ _:Nat),Pf mask pw w G [] bag):Pf mask pw w G gl bag:=.u H_ (sGetInt c d a xs ep i t v) at_ keep_ (sGetInt_valid k hk hv hf) tt next
theorem maxmin {i n:Nat} (h:i<=n):max 0 (min (i:Int) (n:Int))=(i:Int):=by
 rw [Int.min_eq_left (Int.ofNat_le.mpr h)];exact Int.max_eq_right (Int.natCast_nonneg i)
theorem maxTo {i n:Nat} (h:i<=n):(max (i:Int) (n:Int)).toNat=n:=by
 rw [Int.max_eq_right (Int.ofNat_le.mpr h)];exact Int.toNat_natCast n
theorem slice_drop (xs:LV) (i:Nat) (h:i<=xs.length):((sliceRange i xs.length 1).filterMap (xs.toArray[·]?))=xs.drop i:=by
 unfold sliceRange
 simp only [show (1:Int)>0 from by decide,if_true]
 have:(if (i:Int)<(xs.length:Int) then ((xs.length:Int)-i+1-1)/1 else 0).toNat=xs.length-i:=by
  split <;>lia
 rw [this]
 have e:∀k:Nat,((i:Int)+1*(k:Int)).toNat=i+k:=fun k=>by rw [Int.one_mul,←Int.natCast_add];exact Int.toNat_natCast _
 simp only [e,List.filterMap_map]
 have g:∀(n:Nat) (l:LV),l.length=n->(List.range n).filterMap (fun k=>l[k]?)=l:=by
  intro n
  induction n with
  | zero=>intro l hl;cases l with | nil=>rfl | cons=>cases hl
  | succ n ih=>
   intro l hl
   cases l with
   | nil=>cases hl
   | cons a l=>
    rw [List.range_succ_eq_map,List.filterMap_cons]
    simp only [List.getElem?_cons_zero,List.filterMap_map]
    congr 1
    have:=ih l (by simpa using hl)
    simpa [Function.comp_def] using this
 have:=g (xs.length-i) (xs.drop i) (by simp)
 rw [←this]
 congr 1
 funext k
 simp
noncomputable def sliceO (lo hi st:Value):Obj:={cls:=.type "slice",data:=.fields #[lo,hi,st]}
def sGetSlice (c:Value) (d:ON) (a:Nat) (xs:LV) (ep:Nat) (sl:Nat) (i:Nat) (t:Nat):Summ where
 code:=.builtin "list.__getitem__" ⟨[.ref a,.ref sl],[]⟩
 need:=[(a,seqO c d xs ep),(sl,sliceO (.int (Int.ofNat i) t) .none .none)]
 Res:=Nat
 res:=fun x=>.ok (.ret (.ref x))
 upd:=fun _=>[seqO c d xs ep,sliceO (.int (Int.ofNat i) t) .none .none]
 new:=fun x=>[(x,lst (xs.drop i) 0)]
 d:=5
 u:=10
theorem typeIs_slice {s:Shared} {sl:Nat} {lo hi st:Value} (h:s.heap.get? sl=some (sliceO lo hi st)):s.TypeIs (.ref sl) "slice":=⟨_,h,rfl⟩
theorem pick_drop (xs:LV) (i:Nat) (h:i<=xs.length):slicePick xs.toArray (some (Int.ofNat i)) none none=(xs.drop i).toArray:=by
 unfold slicePick sliceBounds
 have e:(if Int.ofNat i<0 then Int.ofNat i+(xs.toArray.size:Int) else Int.ofNat i)=(i:Int):=by
  rw [if_neg (by simp)];rfl
 simp only [Option.getD_none,show (1:Int)>0 from by decide,if_true,e]
 have e2:max 0 (min (i:Int) (xs.toArray.size:Int))=(i:Int):=maxmin ‹_›
 rw [e2]
 have e3:(xs.toArray.size:Int)=(xs.length:Int):=by simp
 rw [e3,slice_drop xs i h]
theorem sGetSlice_valid {w:World} {c:Value} {d:ON} {a:Nat} {xs:LV} {ep:Nat} {sl:Nat} {i:Nat} {t:Nat} (hi:i<=xs.length) (h:xs.length<=100000):Vd w (sGetSlice c d a xs ep sl i t):=
 valid_b rfl PySem.F.slot_list_getitem.plain PySem.F.entry_list_getitem fun A s room base need imm=>by
  have ho:s.heap.get? a=some ⟨c,d,.seq xs.toArray ep,#[]⟩:=need _ (.head _)
  have hs:s.heap.get? sl=some (sliceO (.int (Int.ofNat i) t) .none .none):=need _ (.tail _ (.head _))
  have hTs:=typeIs_slice hs
  show wpAny _ A.in1 (Builtin.«list.__getitem__» ⟨[.ref a,.ref sl],[]⟩) _ _ s
  show wpAny _ _ (Builtin.List.listSubscript? (.ref sl)>>=_) _ _ s
  refine wpAny_bind ?_
  unfold Builtin.List.listSubscript?
  refine wpAny_bind (wpAny_specialOf hTs slice_no_index ?_)
  simp only [Option.isNone_none,if_true]
  refine wpAny_pure ?_
  show wpAny _ _ (typeOf (.ref sl)>>=_) _ _ s
  refine wpAny_bind (wpAny_typeOf hTs ?_)
  rw [if_neg (by decide)]
  rw [listSliceParts_eq]
  refine wpAny_bind (wpAny_bind (wpAny_field hs rfl (x:=.none) rfl (wpAny_bind (wpAny_listPart .none ?_))))
  rw [if_neg (show ¬((rawPart none==rawInt 0)=true) from Bool.false_ne_true)]
  refine wpAny_bind (wpAny_field hs rfl (x:=.int (Int.ofNat i) t) rfl (wpAny_bind (wpAny_listPart (.int _ _) ?_)))
  refine wpAny_bind (wpAny_field hs rfl (x:=.none) rfl (wpAny_bind (wpAny_listPart .none (wpAny_pure ?_))))
  refine wpAny_bind (m:=Builtin.List.listItems (.ref a)) ?_
  unfold Builtin.List.listItems
  refine wpAny_bind (wpAny_seqItems ho rfl (wpAny_pure ?_))
  refine wpAny_bind (wpAny_of_eq (sliceIndices_raw (some (Int.ofNat i)) none none xs.toArray.size (by simp)) ?_)
  refine wpAny_bind (wpAny_newObj_type (wpAny_pure ⟨_,rfl,s.heap.objs.size,trivial,rfl,rfl,?_⟩) (Nat.le_trans (slicePick_size_le xs.toArray _ _ _) (by rw [sizeLine_eq];simp;exact leT ‹_› rfl)))
  have e:=pick_drop xs i hi
  refine out_push (need:=[(a,seqO c d xs ep),(sl,sliceO (.int (Int.ofNat i) t) .none .none)]) ?_ rfl rfl rfl need
  show s.heap.push _=s.heap.push _
  unfold slicePick at e
  rw [e];rfl
noncomputable def loV:Option (Nat×Nat)->Value
 | none=>.none
 | some (i,t)=>.int (Int.ofNat i) t
noncomputable def loN:Option (Nat×Nat)->Nat
 | none=>0
 | some (i,_)=>i
noncomputable def loI:Option (Nat×Nat)->Option Int
 | none=>none
 | some (i,_)=>some (Int.ofNat i)
theorem loP:∀o,IsPart (loV o) (loI o)
 | none=>.none
 | some (i,t)=>.int _ _
def sSetSlice (c:Value) (d:ON) (a:Nat) (xs:LV) (ep:Nat) (sl al:Nat) (lo:Option (Nat×Nat)) (ys:LV) (ep':Nat) (zs:LV):Summ where
 code:=.builtin "list.__setitem__" ⟨[.ref a,.ref sl,.ref al],[]⟩
 need:=[(a,seqO c d xs ep),(sl,sliceO (loV lo) .none .none),(al,lst ys ep')]
 Res:=Nat
 res:=fun _=>.ok (.ret .none)
 upd:=fun x=>[seqO c d zs x,sliceO (loV lo) .none .none,lst ys ep']
 d:=5
 u:=10
theorem Out.of_update {s:Shared} {a:Nat} {o o':Obj} {f:Obj->Obj} {rest:Led} (ho:s.heap.get? a=some o) (hf:f o=o') (hz:o'.isFreed=false) (hr:∀p∈rest,s.heap.get? p.1=some p.2) (hn:a∉rest.map (·.1)):
  Out s {s with heap:=s.heap.update a f} (((a,o)::rest).map (·.1)) (rezip ((a,o)::rest) (o'::rest.map (·.2))) [] []:=by
 have hs:Heap.SameBut a s.heap (s.heap.update a f):=Heap.SameBut.update ..
 have hself:(s.heap.update a f).get? a=some o':=(Heap.get?_update_self _ ho (by rw [hf];exact hz)).trans (by rw [hf])
 refine ⟨fun b o h hb=>(hs.2 b fun e=>hb (by rw [e];exact .head _)).trans h,fun p hp=>?_,fun _ h=>(nomatch h),fun _ h=>(nomatch h),List.nodup_nil,by rw [show ({s with heap:=s.heap.update a f}:Shared).heap=s.heap.update a f from rfl,hs.1];exact Nat.le_refl _,rfl,id⟩
 have:p∈(a,o')::rezip rest (rest.map (·.2)):=hp
 rw [rezip_self] at this
 rcases iC this with rfl | hp
 ·exact hself
 ·exact (hs.2 p.1 fun e=>hn (e▸List.mem_map_of_mem hp)).trans (hr p hp)
theorem bounds_lo (lo:Option (Nat×Nat)) (xs:LV) (hi:loN lo<=xs.length):sliceBounds (loI lo) none none xs.toArray.size=((loN lo:Int),(xs.toArray.size:Int),1):=by
 unfold sliceBounds
 cases lo with
 | none=>simp [loI,loN]
 | some p=>
  obtain ⟨i,t⟩:=p
  have hi:i<=xs.length:=hi
  have e:(if Int.ofNat i<0 then Int.ofNat i+(xs.toArray.size:Int) else Int.ofNat i)=(i:Int):=by
   rw [if_neg (by simp)];rfl
  simp only [loI,loN,Option.getD_none,show (1:Int)>0 from by decide,if_true,e]
  have e2:max 0 (min (i:Int) (xs.toArray.size:Int))=(i:Int):=maxmin ‹_›
  rw [e2]
theorem sSetSlice_valid {w:World} {c:Value} {d:ON} {a:Nat} {xs:LV} {ep:Nat} {sl al:Nat} {lo:Option (Nat×Nat)} {ys:LV} {ep':Nat} {zs:LV} (hi:loN lo<=xs.length) (h:xs.length+ys.length<=100000) (hz:zs=xs.take (loN lo)++ys):Vd w (sSetSlice c d a xs ep sl al lo ys ep' zs):=by
 subst hz
 exact valid_n rfl PySem.F.slot_list_setitem.plain PySem.F.entry_list_setitem fun A s room base need imm nodup msk=>by
  have ho:s.heap.get? a=some ⟨c,d,.seq xs.toArray ep,#[]⟩:=need _ (.head _)
  have hs:s.heap.get? sl=some (sliceO (loV lo) .none .none):=need _ (.tail _ (.head _))
  have hv:s.heap.get? al=some ⟨.type "list",none,.seq ys.toArray ep',#[]⟩:=need _ (.tail _ (.tail _ (.head _)))
  have nd:=List.nodup_cons.mp nodup
  have hne:a≠al:=fun e=>nd.1 (by rw [e];exact .tail _ (.head _))
  have hTs:=typeIs_slice hs
  have hTv:s.TypeIs (.ref al) "list":=⟨_,hv,rfl⟩
  show wpAny _ A.in1 (Builtin.«list.__setitem__» ⟨[.ref a,.ref sl,.ref al],[]⟩) _ _ s
  show wpAny _ _ (Builtin.List.listSubscript? (.ref sl)>>=_) _ _ s
  refine wpAny_bind ?_
  unfold Builtin.List.listSubscript?
  refine wpAny_bind (wpAny_specialOf hTs slice_no_index ?_)
  simp only [Option.isNone_none,if_true]
  refine wpAny_pure ?_
  show wpAny _ _ (typeOf (.ref sl)>>=_) _ _ s
  refine wpAny_bind (wpAny_typeOf hTs ?_)
  rw [if_neg (by decide)]
  rw [listSliceParts_eq]
  refine wpAny_bind (wpAny_bind (wpAny_field hs rfl (x:=.none) rfl (wpAny_bind (wpAny_listPart .none ?_))))
  rw [if_neg (show ¬((rawPart none==rawInt 0)=true) from Bool.false_ne_true)]
  refine wpAny_bind (wpAny_field hs rfl (x:=loV lo) rfl (wpAny_bind (wpAny_listPart (loP lo) ?_)))
  refine wpAny_bind (wpAny_field hs rfl (x:=.none) rfl (wpAny_bind (wpAny_listPart .none (wpAny_pure ?_))))
  rw [if_neg (by simp [Builtin.List.listSameRef,hne])]
  refine wpAny_bind ?_
  unfold Builtin.List.listAllItems
  refine wpAny_bind (wpAny_typeOf hTv ?_)
  rw [if_pos (by decide)]
  refine PySem.wpAny_listItems hv rfl ?_
  refine wpAny_bind (m:=Builtin.List.listItems (.ref a)) (PySem.wpAny_listItems ho rfl ?_)
  refine wpAny_bind (wpAny_of_eq (sliceIndices_raw (loI lo) none none xs.toArray.size (by simp)) ?_)
  rw [bounds_lo lo xs hi]
  rw [if_pos (by rfl)]
  refine wpAny_bind (wpAny_rule ?_)
  have hbig:¬(Builtin.List.listTooLong (xs.toArray.size+ys.toArray.size)=true):=by
   unfold Builtin.List.listTooLong;rw [sizeLine_eq];simp;exact leT ‹_› rfl
  rw [if_neg hbig]
  have e1:((loN lo:Int)).toNat=loN lo:=Int.toNat_natCast _
  have e2:(max (loN lo:Int) (xs.toArray.size:Int)).toNat=xs.length:=maxTo hi
  have e3:∀z:Array Value,z=xs.toArray->z.extract 0 (loN lo)++ys.toArray++z.extract xs.length z.size=(xs.take (loN lo)++ys).toArray:=fun z hz=>by
   subst hz;simp
  have hp:∀n,(Data.seq (xs.toArray.extract 0 (loN lo)++ys.toArray++xs.toArray.extract xs.length xs.toArray.size) n).pastItsLine=none:=fun n=>past_seq (by rw [e3 _ rfl,sizeLine_eq];simp;exact leX (Nat.add_le_add_right (Nat.min_le_right _ _) _) (by assumption) rfl)
  simp only [e1,e2]
  wp_walk
  simp only [Obj.mapSeq,hp]
  wp_walk
  exact ⟨_,rfl,_,trivial,rfl,rfl,Out.of_update (o:=seqO c d xs ep) (rest:=[(sl,sliceO (loV lo) .none .none),(al,lst ys ep')]) ho (by simp only [seqO,Obj.mapSeq,e3 _ rfl];rfl) rfl (fun p hp=>need p (.tail _ hp)) nd.1⟩
noncomputable def iterO (a:Nat) (i:Nat):Obj:={cls:=.type "list_iterator",data:=.fields #[.ref a,.int (Int.ofNat i) 0]}
section
variable {prog:Program} {w:World} {A:Around} {E:Value->Shared->Prop} {s:Shared}
section
variable {it a:Nat} {i:Nat} {o:Obj} {items:Array Value} {n:Nat}
theorem next_item {x:Value} {Q:Option Value->Shared->Prop} (hit:s.heap.get? it=some (iterO a i)) (hol:s.heap.get? a=some o) (hd:o.data=.seq items n) (hx:items[i]? =some x)
  (hQ:∀h',h'.get? it=some (iterO a (i+1))->Heap.SameBut it s.heap h'->Q (some x) {s with heap:=h'}):
  wpAny (model prog w) A (pyNext (.ref it)) Q E s:=by
 have hT:s.TypeIs (.ref it) "list_iterator":=⟨_,hit,rfl⟩
 unfold pyNext
 refine wpAny_bind (wpAny_attempt (wpAny_callSpecial?_slot (name:=Str.ofString "__next__") hT slot_listiter_next
  (wpAny_call_entry slot_listiter_next hT entry_listiter_next ?_ (args_listiter_next _))))
 show wpAny _ _ (field (.ref it) 0>>=_) _ _ s
 refine wpAny_bind (wpAny_field hit rfl (x:=.ref a) rfl ?_)
 show wpAny _ _ (if (Value.ref a==Value.none)=true then _ else _) _ _ s
 rw [if_neg (show ¬((Value.ref a==Value.none)=true) from Bool.false_ne_true)]
 show wpAny _ _ (field (.ref it) 1>>=_) _ _ s
 refine wpAny_bind (wpAny_field hit rfl (x:=.int (Int.ofNat i) 0) rfl ?_)
 show wpAny _ _ (seqItems? (.ref a)>>=_) _ _ s
 refine wpAny_bind (wpAny_seqItems hol hd ?_)
 simp only [Int.toNat_natCast,Int.ofNat_eq_natCast,hx]
 refine wpAny_bind (wpAny_setField_rec hit (by simp) fun h1 g1 b1=>(wpAny_pure ⟨x,rfl,wpAny_pure (hQ _ ?_ b1)⟩))
 rw [g1];rfl
theorem next_end {Q:Option Value->Shared->Prop} (hh:A.handled=none) (hit:s.heap.get? it=some (iterO a i)) (hol:s.heap.get? a=some o) (hd:o.data=.seq items n) (hx:items[i]? =none)
  (hQ:∀h',Heap.ExtBut it s.heap h'->Q none {s with heap:=h'}):wpAny (model prog w) A (pyNext (.ref it)) Q E s:=by
 have hT:s.TypeIs (.ref it) "list_iterator":=⟨_,hit,rfl⟩
 unfold pyNext
 refine wpAny_bind (wpAny_attempt (wpAny_callSpecial?_slot (name:=Str.ofString "__next__") hT slot_listiter_next
  (wpAny_call_entry slot_listiter_next hT entry_listiter_next ?_ (args_listiter_next _))))
 show wpAny _ _ (field (.ref it) 0>>=_) _ _ s
 refine wpAny_bind (wpAny_field hit rfl (x:=.ref a) rfl ?_)
 show wpAny _ _ (if (Value.ref a==Value.none)=true then _ else _) _ _ s
 rw [if_neg (show ¬((Value.ref a==Value.none)=true) from Bool.false_ne_true)]
 show wpAny _ _ (field (.ref it) 1>>=_) _ _ s
 refine wpAny_bind (wpAny_field hit rfl (x:=.int (Int.ofNat i) 0) rfl ?_)
 show wpAny _ _ (seqItems? (.ref a)>>=_) _ _ s
 refine wpAny_bind (wpAny_seqItems hol hd ?_)
 simp only [Int.toNat_natCast,Int.ofNat_eq_natCast,hx]
 refine wpAny_bind (wpAny_rule (wpAny_bind (wpAny_setField_rec hit (by simp) fun h1 g1 b1=>?_)))
 show wpAny _ _ (newExc (.type "StopIteration") []>>=_) _ _ _
 refine wpAny_bind ?_
 simp only [newExc,newTuple]
 refine wpAny_bind (wpAny_newObj_type ?_ (by size_fits))
 refine wpAny_bind (m:=firstArgMember _ _) (wpAny_of_eq (a:=Value.none) (by first | rfl | (simp only [firstArgMember];rfl)) ?_)
 refine wpAny_newObj_type ?_ (by size_fits)
 simp only [raiseNew]
 refine wpAny_bind (wpAny_handled ?_)
 rw [show A.in1.handled=none from hh]
 refine wpAny_bind (wpAny_pure (wpAny_throw ?_))
 refine wpAny_bind (wpAny_isInstance (T:="StopIteration") (b:=true) ⟨_,Heap.get?_push_size _ rfl,rfl⟩ isSubtype_stop ?_)
 exact wpAny_pure (hQ _ ((b1.extBut.push _).push _))
end
end
section
variable (w:World) (R:LexR) (n:Int) (tn:Nat)
def sReadE (c:Nat) (tc:Nat) (l:List (Nat×Nat)) (ep:Nat) (n':Int) (tn':Nat->Nat):Summ where
 code:=.call (.ref 232) ⟨[.ref R.lx],[]⟩
 need:=lexLed w R n tn ((c,tc)::l) ep
 Res:=Nat
 res:=fun _=>.ok (.ret (.str ⟨#[c]⟩ tc))
 upd:=fun x=>(lexLed w R n' (tn' x) l (ep+1)).map (·.2)
 d:=20
 u:=40
def sReadZ (ep:Nat):Summ where
 code:=.call (.ref 232) ⟨[.ref R.lx],[]⟩
 need:=lexLed w R n tn [] ep
 Res:=Nat
 res:=fun t=>.ok (.ret (.str ⟨#[]⟩ t))
 upd:=fun x=>(lexLed w R n tn [] ep).map (·.2)
 d:=20
 u:=40
theorem sRead1_valid (c:Nat) (tc:Nat) (l:List (Nat×Nat)) (ep:Nat) (hc:c=10) (hl:l.length<100000):Vd w (sReadE w R n tn c tc l ep (n+1) id):=
 by
 revert w
 refine vRow ?_ ?_
 ·exact fun w s N0 t0 G_ D_ I_=>
   .u 0x41b06c180000002c0b054120081203c000300c000000000c00000000000300000000030000000003000000000300900006018000000001800000000000602000000080200000002 (sLen R.left (chs ((c,tc)::l)) ep) [21] [2] (sLen_valid (by simp [chs];lia)) tt fun x1 N1 t1=>
   .u 0x41b0001b06c1b06c18 (sPop0 R.left ((fun p=>Value.str (Str.mk #[p.fst]) p.snd) (c,tc)) (List.map (fun p=>Value.str (Str.mk #[p.fst]) p.snd) l) ep (t1+0)) [21] [1] (sPop0_valid (by simp;lia)) tt fun x2 N2 t2=>
   psStrEq 0x10000701c07 (Str.mk #[c]) tc (Str.mk (Array.mk [10])) (t2+1) true (by simp [hc]) [1] fun x3 N3 t3=>
   dn D_ 0x401c090240900006000000000600006000000180000000000060000002400018060000000006000000000001807 ((.ok (.ret (.str ⟨#[c]⟩ tc)))) (zipP [0,3,6,9,12,15,18,21] ((lexLed w R (n+1) (t3+2) l (ep+1)))) [] [] fun s' O=>⟨t3+2,trivial,rfl,rfl,O⟩
 kernel_rfl
theorem sRead2_valid (c:Nat) (tc:Nat) (l:List (Nat×Nat)) (ep:Nat) (hc:c≠10) (hl:l.length<100000):Vd w (sReadE w R n tn c tc l ep n (fun _=>tn)):=
 by
 revert w
 refine vRow ?_ ?_
 ·exact fun w s N0 t0 G_ D_ I_=>
   .u 0x41b06c180000002c0b054120081203c000300c000000000c00000000000300000000030000000003000000000300900006018000000001800000000000602000000080200000002 (sLen R.left (chs ((c,tc)::l)) ep) [21] [2] (sLen_valid (by simp [chs];lia)) tt fun x1 N1 t1=>
   .u 0x41b0001b06c1b06c18 (sPop0 R.left ((fun p=>Value.str (Str.mk #[p.fst]) p.snd) (c,tc)) (List.map (fun p=>Value.str (Str.mk #[p.fst]) p.snd) l) ep (t1+0)) [21] [1] (sPop0_valid (by simp;lia)) tt fun x2 N2 t2=>
   psStrEq 0x10000701c07 (Str.mk #[c]) tc (Str.mk (Array.mk [10])) (t2+1) false (by simp [hc]) [1] fun x3 N3 t3=>
   dn D_ 0x1007 ((.ok (.ret (.str ⟨#[c]⟩ tc)))) (zipP [0,3,6,9,12,15,18,21] ((lexLed w R n tn l (ep+1)))) [] [] fun s' O=>⟨(0:Nat),trivial,rfl,rfl,O⟩
 kernel_rfl
end
theorem sReadZ_valid (w:World) {R:LexR} {n:Int} {tn:Nat} {ep:Nat}:Vd w (sReadZ w R n tn ep):=
 by
 revert w
 refine vRow ?_ ?_
 ·exact fun w s N0 t0 G_ D_ I_=>
   .u 0x41b06c180000002c0b054120081203c000300c000000000c00000000000300000000030000000003000000000300900006018000000001800000000000602000000080200000002 (sLen R.left (chs []) ep) [21] [2] (sLen_valid (by simp [chs])) tt fun x1 N1 t1=>
   psStrEq 0x10000701c07 (Str.mk (Array.mk [])) (t1+0) (Str.mk (Array.mk [10])) (t1+2) false (by simp) [1] fun x3 N3 t3=>
   dn D_ 0x1007 ((.ok (.ret (.str ⟨#[]⟩ t1)))) (zipP [0,3,6,9,12,15,18,21] ((lexLed w R n tn [] ep))) [] [] fun s' O=>⟨_,trivial,rfl,rfl,O⟩
 kernel_rfl
def sRead (w:World) (R:LexR) (n:Int) (tn:Nat) (c:Nat) (tc:Nat) (l:List (Nat×Nat)) (ep:Nat):Summ:=sReadE w R n tn c tc l ep (if c=10 then n+1 else n) (fun t=>if c=10 then t else tn)
theorem sRead_valid {w:World} {R:LexR} {n:Int} {tn:Nat} {c:Nat} {tc:Nat} {l:List (Nat×Nat)} {ep:Nat} (hl:l.length<100000):Vd w (sRead w R n tn c tc l ep):=by
 unfold sRead
 by_cases h:c=10
 ·simp only [h,if_true];exact sRead1_valid w R n tn 10 tc l ep rfl hl
 ·simp only [h,if_false];exact sRead2_valid w R n tn c tc l ep h hl
theorem wpAny_callBorrowed {M:Model} {A:Around} {E:Value->Shared->Prop} {s:Shared} {f:Value} {pos:LV} {Q:Value->Shared->Prop}
  (hc:codeAny M A (.call f ⟨pos,[]⟩) (fun r s'=>match r with | .ok (.ret v)=>Q v s' | .ok _=>False | .error e=>E e s') s):wpAny M A (callBorrowed f pos) Q E s:=fun Γ p hΓ=>by
 unfold callBorrowed
 rw [Sem.wp_call]
 have:=hc _ p rfl (hΓ.enter (.call f ⟨pos,[]⟩) none p (by intro x;cases x))
 refine wpCode_mono (fun r s' h=>?_) this
 revert h
 cases r with
 | error e=>exact id
 | ok fl=>cases fl <;>exact id
theorem RoomOk.in1 {A:Around} {S S':Summ} (r:RoomOk A S) (hd:S'.d<=S.d) (hu:S'.u+1<=S.u) (he:S'.env=none) (hf:S'.fr=none):RoomOk A.in1 S':=
 ⟨r.handled,Nat.lt_of_le_of_lt (Nat.add_le_add_left hd _) r.depth,by have:=r.units;show A.units+1+_<_;lia,fun e q=>(by rw [he] at q;cases q),r.frames,fun e q=>(by rw [hf] at q;cases q)⟩
noncomputable def methO (R:LexR):Obj:={cls:=.type "method",data:=.fields #[.ref 232,.ref R.lx]}
def itO (m tq:Nat) (b:Bool):Obj:={cls:=.type "callable_iterator",data:=.fields #[.ref m,.str (st []) tq,.bool b]}
section
variable (w:World) (R:LexR) (m:Nat) (n:Int) (tn:Nat)
def sMeth (c:Nat) (tc:Nat) (l:List (Nat×Nat)) (ep:Nat):Summ where
 code:=.call (.ref m) ⟨[],[]⟩
 need:=(m,methO R)::lexLed w R n tn ((c,tc)::l) ep
 Res:=Nat
 res:=fun _=>.ok (.ret (.str ⟨#[c]⟩ tc))
 upd:=fun x=>methO R::(lexLed w R (if c=10 then n+1 else n) (if c=10 then x else tn) l (ep+1)).map (·.2)
 d:=22
 u:=45
def sMethZ (ep:Nat):Summ where
 code:=.call (.ref m) ⟨[],[]⟩
 need:=(m,methO R)::lexLed w R n tn [] ep
 Res:=Nat
 res:=fun t=>.ok (.ret (.str (st []) t))
 upd:=fun x=>methO R::(lexLed w R n tn [] ep).map (·.2)
 d:=22
 u:=45
theorem sMeth_valid (c:Nat) (tc:Nat) (l:List (Nat×Nat)) (ep:Nat) (hl:l.length<100000):Vd w (sMeth w R m n tn c tc l ep):=
 by
 revert w
 refine vOne ?_ ?_
 ·exact fun w s N0 t0 G_ D_ I_=>
   .u 0x101800 (sRead w R n tn c tc l ep) [3,6,9,12,15,18,21,24] [] (sRead_valid hl) tt fun x1 N1 t1=>
   dn D_ 0x4 ((.ok (.ret (.str ⟨#[c]⟩ tc)))) (zipP [0,3,6,9,12,15,18,21,24] (((m,methO R)::lexLed w R (if c=10 then n+1 else n) (if c=10 then x1 else tn) l (ep+1)))) [] [] fun s' O=>⟨x1,trivial,rfl,rfl,O⟩
 kernel_rfl
theorem sMethZ_valid (ep:Nat):Vd w (sMethZ w R m n tn ep):=
 by
 revert w
 refine vOne ?_ ?_
 ·exact fun w s N0 t0 G_ D_ I_=>
   .u 0x101800 (sReadZ w R n tn ep) [3,6,9,12,15,18,21,24] [] (sReadZ_valid _) tt fun x1 N1 t1=>
   dn D_ 0x4 ((.ok (.ret (.str (st []) x1)))) (zipP [0,3,6,9,12,15,18,21,24] (((m,methO R)::lexLed w R n tn [] ep))) [] [] fun s' O=>⟨x1,trivial,rfl,rfl,O⟩
 kernel_rfl
end
def sNext (w:World) (R:LexR) (it m tq:Nat) (n:Int) (tn:Nat) (c:Nat) (tc:Nat) (l:List (Nat×Nat)) (ep:Nat):Summ where
 code:=.builtin "callable_iterator.__next__" ⟨[.ref it],[]⟩
 need:=(it,itO m tq false)::(m,methO R)::lexLed w R n tn ((c,tc)::l) ep
 Res:=Nat
 res:=fun _=>.ok (.ret (.str ⟨#[c]⟩ tc))
 upd:=fun x=>itO m tq false::methO R::(lexLed w R (if c=10 then n+1 else n) (if c=10 then x else tn) l (ep+1)).map (·.2)
 d:=25
 u:=50
noncomputable def tupO (xs:LV):Obj:={cls:=.type "tuple",data:=.seq xs.toArray}
noncomputable def stopO (t:Nat):Obj:={cls:=.type "StopIteration",data:=.fields #[.ref t,.none,.none,.none,.bool false,.none]}
def sNextZ (w:World) (R:LexR) (it m tq:Nat) (n:Int) (tn:Nat) (ep:Nat):Summ where
 code:=.builtin "callable_iterator.__next__" ⟨[.ref it],[]⟩
 need:=(it,itO m tq false)::(m,methO R)::lexLed w R n tn [] ep
 Res:=Nat×Nat
 res:=fun x=>.error (.ref x.1)
 upd:=fun x=>{cls:=.type "callable_iterator",data:=.fields #[.none,.none,.bool true]}::methO R::(lexLed w R n tn [] ep).map (·.2)
 new:=fun x=>[(x.1,stopO x.2),(x.2,tupO [])]
 d:=25
 u:=50
noncomputable def endO:Obj:={cls:=.type "callable_iterator",data:=.fields #[.none,.none,.bool true]}
def sNextE (w:World) (it:Nat):Summ where
 code:=.builtin "callable_iterator.__next__" ⟨[.ref it],[]⟩
 need:=[(it,endO)]
 Res:=Nat×Nat
 res:=fun x=>.error (.ref x.1)
 upd:=fun x=>[endO]
 new:=fun x=>[(x.1,stopO x.2),(x.2,tupO [])]
 d:=25
 u:=50
theorem entry_ci:entryFor table "callable_iterator.__next__"=some Builtin.«callable_iterator.__next__»:=entryFor_of_tree (by kernel_rfl)
theorem plain_ci:plainId "callable_iterator.__next__"=true:=by decide +kernel
theorem Out.grow {s s':Shared} {mods:LN} {lv ln li:Led} {a:Nat} {o:Obj} (O:Out s s' mods lv ln li) (h:s'.heap.get? a=some o):Out s s' (a::mods) ((a,o)::lv) ln li:=
 ⟨fun b o' hb hn=>O.keep b o' hb fun h=>hn (.tail _ h),fun p hp=>by rcases iC hp with rfl | hp;exact h;exact O.gv p hp,O.nw,O.gi,O.nodup,O.size,O.os,O.bare⟩
def isFn (w:World) (a:Nat):Bool:=match (tb w).get a with
 | some o=>match o.data with
  | .func _=>true
  | _=>false
 | none=>false
theorem isFn_of {w:World} {a:Nat} {h:Heap} (base:BaseOk mask w h) (hm:Nat.testBit mask a=true) (hf:isFn w a=true):∃o fd,h.get? a=some o/\o.data=.func fd:=by
 unfold isFn at hf
 split at hf
 ·rename_i o e
  split at hf
  ·rename_i fd q;exact ⟨o,fd,base.get a o hm e (notFreed q rfl),q⟩
  ·cases hf
 ·cases hf
theorem isFn_232 (w:World):isFn w 232=true:=by kernel_rfl
theorem borrows {w:World} {A:Around} {E:Value->Shared->Prop} {s:Shared} {m:Nat} {R:LexR} {Q:Bool->Shared->Prop} (base:BaseOk mask w s.heap) (hm:s.heap.get? m=some (methO R))
  (h:Q true s):wpAny (model pw w) A (borrowsExactly (.ref m)) Q E s:=by
 obtain ⟨o,fd,ho,hd⟩:=isFn_of base (a:=232) (by decide +kernel) (isFn_232 w)
 unfold borrowsExactly
 refine wpAny_bind (wpAny_load hm ?_)
 show wpAny _ _ (load 232>>=_) _ _ _
 refine wpAny_bind (wpAny_load ho ?_)
 rw [hd]
 exact wpAny_pure h
theorem Out.base {s s':Shared} {mods:LN} {lv ln li:Led} {w:World} (O:Out s s' mods lv ln li) (B:BaseOk mask w s.heap) (hm:∀a∈mods,Nat.testBit mask a=false):BaseOk mask w s'.heap:=
 ⟨fun a o h e f=>O.keep a o (B.get a o h e f) fun hh=>(by rw [hm a hh] at h;cases h),fun a h=>Nat.lt_of_lt_of_le (B.lt a h) O.size,B.lim.at fun o ho=>O.keep _ o ho fun hh=>(by have:=B.stat;rw [hm _ hh] at this;cases this),B.stat⟩
section
variable {s s1:Shared} {mods:LN} {lv:Led}
theorem Out.set {a:Nat} {o:Obj} {h2:Heap} (O:Out s s1 mods lv [] []) (hs:Heap.SameBut a s1.heap h2) (ha:a∉mods) (hlv:∀p∈lv,p.1∈mods) (ho:h2.get? a=some o):
  Out s {s1 with heap:=h2} (a::mods) ((a,o)::lv) [] []:=
 ⟨fun b o' hb hn=>(hs.2 b fun e=>hn (by rw [e];exact .head _)).trans (O.keep b o' hb fun h=>hn (.tail _ h)),fun p hp=>(by
  rcases iC hp with rfl | hp
  ·exact ho
  ·exact (hs.2 p.1 fun e=>ha (e▸hlv p hp)).trans (O.gv p hp)),(fun _ h=>nomatch h),(fun _ h=>nomatch h),List.nodup_nil,by rw [show ({s1 with heap:=h2}:Shared).heap=h2 from rfl,hs.1];exact O.size,O.os,O.bare⟩
theorem Out.push2 {o1 o2:Obj} (O:Out s s1 mods lv [] []) (f1:o1.isFreed=false) (f2:o2.isFreed=false):
  Out s {s1 with heap:=(s1.heap.push o1).push o2} mods lv [((s1.heap.push o1).objs.size,o2),(s1.heap.objs.size,o1)] []:=
 ⟨fun b o' hb hn=>Heap.get?_push_of_some _ (Heap.get?_push_of_some _ (O.keep b o' hb hn)),fun p hp=>Heap.get?_push_of_some _ (Heap.get?_push_of_some _ (O.gv p hp)),fun p hp=>(by
  have:=O.size
  rcases iC hp with rfl | hp
  ·exact ⟨Heap.get?_push_size _ f2,by rw [Heap.size_push];exact .step ‹_›⟩
  ·rcases iC hp with rfl | hp
   ·exact ⟨Heap.get?_push_of_some _ (Heap.get?_push_size _ f1),this⟩
   ·cases hp),(fun _ h=>nomatch h),by simp [Heap.size_push],by
  show _<=((s1.heap.push o1).push o2).objs.size
  rw [Heap.size_push,Heap.size_push];have:=O.size;lia,O.os,O.bare⟩
end
theorem rezip_key:∀{l:Led} {os:List Obj} {p:Nat×Obj},p∈rezip l os->p.1∈l.map (·.1)
 | [],_,_,h=>by unfold rezip at h;cases h
 | _::_,[],_,h=>by unfold rezip at h;cases h
 | q::l,o::os,p,h=>by
  unfold rezip at h
  rcases iC h with rfl | h
  ·exact .head _
  ·exact .tail _ (rezip_key h)
theorem wp_stop {M:Model} {α:Type} {A:Around} {Q:α->Shared->Prop} {E:Value->Shared->Prop} {s:Shared} (hh:A.handled=none)
  (h:E (.ref (s.heap.push (tupO [])).objs.size) {s with heap:=(s.heap.push (tupO [])).push (stopO s.heap.objs.size)}):wpAny M A (Builtin.SmallTypes.stopIteration:Sem α) Q E s:=by
 unfold Builtin.SmallTypes.stopIteration
 refine wpAny_bind ?_
 simp only [newExc,newTuple]
 refine wpAny_bind (wpAny_newObj_type ?_ (by size_fits))
 refine wpAny_bind (m:=firstArgMember _ _) (wpAny_of_eq (a:=Value.none) (by first | rfl | (simp only [firstArgMember];rfl)) ?_)
 refine wpAny_newObj_type ?_ (by size_fits)
 simp only [raiseNew]
 refine wpAny_bind (wpAny_handled ?_)
 rw [hh]
 exact wpAny_bind (wpAny_pure (wpAny_throw h))
theorem callSlot {w:World} {A:Around} {E:Value->Shared->Prop} {s:Shared} {m:Nat} {R:LexR} {Q:Value->Shared->Prop} (base:BaseOk mask w s.heap) (hm:s.heap.get? m=some (methO R))
  (h:codeAny (model pw w) A (.call (.ref m) ⟨[],[]⟩) (fun r s'=>match r with | .ok (.ret v)=>Q v s' | .ok _=>False | .error e=>E e s') s):wpAny (model pw w) A (callOutOfASlot (.ref m)) Q E s:=by
 unfold callOutOfASlot
 obtain ⟨o,fd,ho,hd⟩:=isFn_of base (a:=232) (by decide +kernel) (isFn_232 w)
 refine wpAny_bind (m:=borrowsExactly (.ref m)) ?_
 unfold borrowsExactly
 refine wpAny_bind (wpAny_load hm ?_)
 show wpAny _ _ (load 232>>=_) _ _ _
 refine wpAny_bind (wpAny_load ho ?_)
 rw [hd]
 exact wpAny_pure (wpAny_callBorrowed h)
section
variable {w:World} {R:LexR} {it m tq:Nat} {n:Int} {tn:Nat}
theorem sNext_valid {c:Nat} {tc:Nat} {l:List (Nat×Nat)} {ep:Nat} (hl:l.length<100000):Vd w (sNext w R it m tq n tn c tc l ep):=by
 refine valid_n rfl plain_ci entry_ci fun A s room base need imm nodup msk=>?_
 have hit:s.heap.get? it=some (itO m tq false):=need _ (.head _)
 have hm:s.heap.get? m=some (methO R):=need _ (.tail _ (.head _))
 show wpAny _ A.in1 (Builtin.«callable_iterator.__next__» ⟨[.ref it],[]⟩) _ _ s
 unfold Builtin.«callable_iterator.__next__»
 refine wpAny_bind (wpAny_pure ?_)
 refine wpAny_bind (wpAny_field hit rfl (x:=.bool false) rfl ?_)
 refine wpAny_bind (wpAny_field hit rfl (x:=.ref m) rfl (wpAny_bind (wpAny_attempt (callSlot base hm ?_))))
 have nd:=List.nodup_cons.mp nodup
 refine codeAny_mono (sMeth_valid w R m n tn c tc l ep hl A.in1 s (room.in1 (Nat.le_of_ble_eq_true rfl) (Nat.le_of_ble_eq_true rfl) rfl rfl) base (fun p hp=>need p (.tail _ hp)) (fun p hp=>nomatch hp) nd.2 (fun p hp=>msk p (.tail _ hp)) (fun _ h=>nomatch h)) fun r s' hr=>?_
 obtain ⟨x,-,rfl,hlen,O⟩:=hr
 have hit':=O.keep it _ hit nd.1
 show wpAny _ _ (field (.ref it) 2>>=_) _ _ s'
 refine wpAny_bind (wpAny_field hit' rfl (x:=.bool false) rfl ?_)
 show wpAny _ _ (field (.ref it) 1>>=_) _ _ s'
 refine wpAny_bind (wpAny_field hit' rfl (x:=.str (st []) tq) rfl ?_)
 refine wpAny_bind (wpAny_holding (eqBool_str ?_))
 have e:(st []==(⟨#[c]⟩:Str))=false:=by rw [beq_eq_false_iff_ne];intro h;cases h
 rw [e]
 exact wpAny_pure ⟨_,rfl,x,trivial,rfl,rfl,O.grow hit'⟩
theorem sNextZ_valid {ep:Nat}:Vd w (sNextZ w R it m tq n tn ep):=by
 refine valid_n rfl plain_ci entry_ci fun A s room base need imm nodup msk=>?_
 have hit:s.heap.get? it=some (itO m tq false):=need _ (.head _)
 have hm:s.heap.get? m=some (methO R):=need _ (.tail _ (.head _))
 show wpAny _ A.in1 (Builtin.«callable_iterator.__next__» ⟨[.ref it],[]⟩) _ _ s
 unfold Builtin.«callable_iterator.__next__»
 refine wpAny_bind (wpAny_pure ?_)
 refine wpAny_bind (wpAny_field hit rfl (x:=.bool false) rfl ?_)
 refine wpAny_bind (wpAny_field hit rfl (x:=.ref m) rfl (wpAny_bind (wpAny_attempt (callSlot base hm ?_))))
 have nd:=List.nodup_cons.mp nodup
 refine codeAny_mono (sMethZ_valid w R m n tn ep A.in1 s (room.in1 (Nat.le_of_ble_eq_true rfl) (Nat.le_of_ble_eq_true rfl) rfl rfl) base (fun p hp=>need p (.tail _ hp)) (fun p hp=>nomatch hp) nd.2 (fun p hp=>msk p (.tail _ hp)) (fun _ h=>nomatch h)) fun r s' hr=>?_
 obtain ⟨x,-,rfl,hlen,O⟩:=hr
 have hit':=O.keep it _ hit nd.1
 show wpAny _ _ (field (.ref it) 2>>=_) _ _ s'
 refine wpAny_bind (wpAny_field hit' rfl (x:=.bool false) rfl ?_)
 show wpAny _ _ (field (.ref it) 1>>=_) _ _ s'
 refine wpAny_bind (wpAny_field hit' rfl (x:=.str (st []) tq) rfl ?_)
 refine wpAny_bind (wpAny_holding (eqBool_str ?_))
 have e:(st []==(st []:Str))=true:=by simp
 rw [e]
 refine wpAny_bind (wpAny_rule ?_)
 have hm':s'.heap.get? m=some (methO R):=O.gv (m,methO R) (.head _)
 have hb':BaseOk mask w s'.heap:=O.base base fun a ha=>by obtain ⟨p,hp,rfl⟩:=List.mem_map.mp ha;exact msk p (.tail _ hp)
 refine wpAny_bind (m:=do
  slotLetsGo "callable_iterator.__next__" (←field (.ref it) 0) fun | .builtin "callable_iterator.__next__" x=>x.pos.head?==some (.ref it) | _=>false
  setField (.ref it) 0 .none;setField (.ref it) 1 .none;setField (.ref it) 2 (.bool true)) ?_
 refine wpAny_bind (wpAny_field hit' rfl (x:=.ref m) rfl ?_)
 refine wpAny_bind (m:=slotLetsGo _ _ _) ?_
 unfold slotLetsGo
 refine wpAny_bind (borrows hb' hm' ?_)
 refine wpAny_pure ?_
 refine wpAny_bind (wpAny_setField_rec hit' (by simp) fun h1 g1 b1=>?_)
 refine wpAny_bind (wpAny_setField_rec g1 (by simp) fun h2 g2 b2=>?_)
 refine wpAny_setField_rec g2 (by simp) fun h3 g3 b3=>?_
 have hb:Heap.SameBut it s'.heap h3:=(b1.trans b2).trans b3
 have O2:=O.set (s1:=s') hb nd.1 (fun p hp=>rezip_key hp) g3
 exact wp_stop room.handled ⟨(_,_),trivial,rfl,rfl,O2.push2 rfl rfl⟩
end
theorem sNextE_valid {w:World} {it:Nat}:Vd w (sNextE w it):=by
 refine valid_n rfl plain_ci entry_ci fun A s room base need imm nodup msk=>?_
 have hit:s.heap.get? it=some endO:=need _ (.head _)
 show wpAny _ A.in1 (Builtin.«callable_iterator.__next__» ⟨[.ref it],[]⟩) _ _ s
 unfold Builtin.«callable_iterator.__next__»
 refine wpAny_bind (wpAny_pure ?_)
 refine wpAny_bind (wpAny_field hit rfl (x:=.bool true) rfl ?_)
 refine wpAny_bind (wpAny_rule (wpAny_bind (wp_stop room.handled ?_)))
 exact ⟨(_,_),trivial,rfl,rfl,((out_nil (s:=s) (s':=s) rfl rfl rfl).grow hit).push2 rfl rfl⟩
noncomputable def iterE (i:Nat):Obj:={cls:=.type "list_iterator",data:=.fields #[.none,.int (Int.ofNat i) 0]}
noncomputable def seqL (c:Value) (d:ON) (xs:LV) (ep:Nat):Obj:={cls:=c,dict:=d,data:=.seq xs.toArray ep}
section
variable (it a i:Nat) (c:Value) (d:ON) (xs:LV) (ep:Nat)
def sItN (v:Value):Summ where
 code:=.builtin "list_iterator.__next__" ⟨[.ref it],[]⟩
 need:=[(it,iterO a i),(a,seqL c d xs ep)]
 Res:=Unit
 res:=fun _=>.ok (.ret v)
 upd:=fun _=>[iterO a (i+1),seqL c d xs ep]
 d:=5
 u:=10
def sItE:Summ where
 code:=.builtin "list_iterator.__next__" ⟨[.ref it],[]⟩
 need:=[(it,iterO a i),(a,seqL c d xs ep)]
 Res:=Nat×Nat
 res:=fun x=>.error (.ref x.1)
 upd:=fun _=>[iterE i,seqL c d xs ep]
 new:=fun x=>[(x.1,stopO x.2),(x.2,tupO [])]
 d:=5
 u:=10
def sItNI (v:Value):Summ where
 code:=.builtin "list_iterator.__next__" ⟨[.ref it],[]⟩
 need:=[(it,iterO a i)]
 imm:=[(a,seqL c d xs ep)]
 Res:=Unit
 res:=fun _=>.ok (.ret v)
 upd:=fun _=>[iterO a (i+1)]
 d:=5
 u:=10
def sItEI:Summ where
 code:=.builtin "list_iterator.__next__" ⟨[.ref it],[]⟩
 need:=[(it,iterO a i)]
 imm:=[(a,seqL c d xs ep)]
 Res:=Nat×Nat
 res:=fun x=>.error (.ref x.1)
 upd:=fun _=>[iterE i]
 new:=fun x=>[(x.1,stopO x.2),(x.2,tupO [])]
 d:=5
 u:=10
end
theorem plain_li:plainId "list_iterator.__next__"=true:=by decide +kernel
section
variable {w:World} {A:Around} {E:Value->Shared->Prop} {s:Shared} {it a i:Nat} {c:Value} {d:ON} {xs:LV} {ep:Nat}
theorem wp_itN {v:Value} {Q:PySem.Fin->Shared->Prop} (hit:s.heap.get? it=some (iterO a i)) (hol:s.heap.get? a=some (seqL c d xs ep)) (hv:xs[i]? =some v)
  (hQ:∀h',h'.get? it=some (iterO a (i+1))->Heap.SameBut it s.heap h'->Q (.done (.ret v)) {s with heap:=h'}):wpAny (model pw w) A (Builtin.«list_iterator.__next__» ⟨[.ref it],[]⟩) Q E s:=by
 show wpAny _ _ (field (.ref it) 0>>=_) _ _ s
 refine wpAny_bind (wpAny_field hit rfl (x:=.ref a) rfl ?_)
 show wpAny _ _ (if (Value.ref a==Value.none)=true then _ else _) _ _ s
 rw [if_neg (show ¬((Value.ref a==Value.none)=true) from Bool.false_ne_true)]
 show wpAny _ _ (field (.ref it) 1>>=_) _ _ s
 refine wpAny_bind (wpAny_field hit rfl (x:=.int (Int.ofNat i) 0) rfl ?_)
 show wpAny _ _ (seqItems? (.ref a)>>=_) _ _ s
 refine wpAny_bind (wpAny_seqItems hol rfl ?_)
 have hx:xs.toArray[i]? =some v:=by simpa using hv
 simp only [Int.toNat_natCast,Int.ofNat_eq_natCast,hx]
 refine wpAny_bind (wpAny_setField_rec hit (by simp) fun h1 g1 b1=>(wpAny_pure (hQ _ ?_ b1)))
 rw [g1];rfl
theorem wp_itE {Q:PySem.Fin->Shared->Prop} (hh:A.handled=none) (hit:s.heap.get? it=some (iterO a i)) (hol:s.heap.get? a=some (seqL c d xs ep)) (hv:xs.length<=i)
  (hE:∀h',h'.get? it=some (iterE i)->Heap.SameBut it s.heap h'->E (.ref (h'.push (tupO [])).objs.size) {s with heap:=(h'.push (tupO [])).push (stopO h'.objs.size)}):wpAny (model pw w) A (Builtin.«list_iterator.__next__» ⟨[.ref it],[]⟩) Q E s:=by
 show wpAny _ _ (field (.ref it) 0>>=_) _ _ s
 refine wpAny_bind (wpAny_field hit rfl (x:=.ref a) rfl ?_)
 show wpAny _ _ (if (Value.ref a==Value.none)=true then _ else _) _ _ s
 rw [if_neg (show ¬((Value.ref a==Value.none)=true) from Bool.false_ne_true)]
 show wpAny _ _ (field (.ref it) 1>>=_) _ _ s
 refine wpAny_bind (wpAny_field hit rfl (x:=.int (Int.ofNat i) 0) rfl ?_)
 show wpAny _ _ (seqItems? (.ref a)>>=_) _ _ s
 refine wpAny_bind (wpAny_seqItems hol rfl ?_)
 have hx:xs.toArray[i]? =none:=by simp;exact hv
 simp only [Int.toNat_natCast,Int.ofNat_eq_natCast,hx]
 refine wpAny_bind (wpAny_rule (wpAny_bind (wpAny_setField_rec hit (by simp) fun h1 g1 b1=>?_)))
 exact wp_stop hh (hE h1 (by rw [g1];rfl) b1)
end
section
variable {w:World} {it a i:Nat} {c:Value} {d:ON} {xs:LV} {ep:Nat} {v:Value}
theorem sItN_valid (hv:xs[i]? =some v):Vd w (sItN it a i c d xs ep v):=
 valid_n rfl plain_li entry_listiter_next fun A s room base need imm nodup msk=>by
  have nd:=List.nodup_cons.mp nodup
  refine wp_itN (need _ (.head _)) (need _ (.tail _ (.head _))) hv fun h' g b=>⟨_,rfl,(),trivial,rfl,rfl,?_⟩
  exact ((out_nil (s:=s) (s':=s) rfl rfl rfl).grow (need _ (.tail _ (.head _)))).set (s1:=s) b nd.1 (fun p hp=>by rcases iC hp with rfl | hp;exact .head _;cases hp) g
theorem sItNI_valid (hv:xs[i]? =some v):Vd w (sItNI it a i c d xs ep v):=
 valid_n rfl plain_li entry_listiter_next fun A s room base need imm nodup msk=>by
  refine wp_itN (need _ (.head _)) (imm _ (.head _)) hv fun h' g b=>⟨_,rfl,(),trivial,rfl,rfl,?_⟩
  exact (out_nil (s:=s) (s':=s) rfl rfl rfl).set (s1:=s) b (fun h=>nomatch h) (fun _ hp=>nomatch hp) g
end
def psItNI {w:World} {G:OblG} {gl:List (Nat×Code)} {bag:Led} (H_:Nat) (it a i:Nat) (c:Value) (d:ON) (xs:LV) (ep:Nat) (v:Value) (hv:xs[i]? =some v) (at_:LN) (keep_:LN) (hi_:∀p∈(sItNI it a i c d xs ep v).imm,p∈G.imm0\/p∈bag++ledOf []) (next:∀(_:(sItNI it a i c d xs ep v).Res) (_ _:Nat),Pf mask pw w G [] bag):Pf mask pw w G gl bag:=.ui H_ (sItNI it a i c d xs ep v) at_ keep_ (sItNI_valid hv) hi_ tt next
section
variable {w:World} {it a i:Nat} {c:Value} {d:ON} {xs:LV} {ep:Nat}
theorem sItE_valid (hv:xs.length<=i):Vd w (sItE it a i c d xs ep):=
 valid_n rfl plain_li entry_listiter_next fun A s room base need imm nodup msk=>by
  have nd:=List.nodup_cons.mp nodup
  refine wp_itE room.handled (need _ (.head _)) (need _ (.tail _ (.head _))) hv fun h' g b=>⟨((h'.push (tupO [])).objs.size,h'.objs.size),trivial,rfl,rfl,?_⟩
  exact (((out_nil (s:=s) (s':=s) rfl rfl rfl).grow (need _ (.tail _ (.head _)))).set (s1:=s) b nd.1 (fun p hp=>by rcases iC hp with rfl | hp;exact .head _;cases hp) g).push2 rfl rfl
theorem sItEI_valid (hv:xs.length<=i):Vd w (sItEI it a i c d xs ep):=
 valid_n rfl plain_li entry_listiter_next fun A s room base need imm nodup msk=>by
  refine wp_itE room.handled (need _ (.head _)) (imm _ (.head _)) hv fun h' g b=>⟨((h'.push (tupO [])).objs.size,h'.objs.size),trivial,rfl,rfl,?_⟩
  exact ((out_nil (s:=s) (s':=s) rfl rfl rfl).set (s1:=s) b (fun h=>nomatch h) (fun _ hp=>nomatch hp) g).push2 rfl rfl
end
noncomputable def lows:LN:=[169,176,286]
theorem mask_high {a:Nat} (h:Nat.testBit mask a=false):a∈lows\/∃b,a=b+314:=by
 rcases Nat.lt_or_ge a 314 with q | q
 ·have:∀a,a<314->Nat.testBit mask a=false->a∈lows:=by decide +kernel
  exact .inl (this a q h)
 ·exact .inr ⟨a-314,by lia⟩
theorem valid_high {w:World} {S:Nat->Summ} (a:Nat) (hm:a∈(S a).need.map (·.1)) (hl:∀a∈lows,Vd w (S a)) (hh:∀b,Vd w (S (b+314))):Vd w (S a):=fun A s room base need imm nodup msk gn=>by
 obtain ⟨p,hp,e⟩:=List.mem_map.mp hm
 rcases mask_high (e▸msk p hp) with h | ⟨b,h⟩
 ·exact hl a h A s room base need imm nodup msk gn
 ·have hb:=hh b
  rw [←h] at hb
  exact hb A s room base need imm nodup msk gn
def accPt (C:LC) (i:Nat) (vals:Array Value):Prop:=∃c,C[i]? =some c/\vals= #[.str (st c.f) c.tf,.str (st c.p) c.tp]
section
variable (it a d:Nat) (C:LC) (ep:Nat) (i:Nat)
def accSt (h:Heap):Prop:=h.get? it=some (iterO a i)/\h.get? a=some (accO d (accXs C) ep)/\∀c∈C,h.get? c.at_=some c.led.2
def accMid (T:Nat) (h:Heap):Prop:=accSt it a d C ep (i+1) h/\∃c,C[i]? =some c/\T=c.at_
end
noncomputable def accFp (it a:Nat) (C:LC):LN:=it::a::2::3::0::C.map (·.at_)
theorem accWalks {prog:Program} {w:World} {A:Around} (hh:A.handled=none) (it a d:Nat) (C:LC) (ep:Nat) (hia:it≠a) (hic:∀c∈C,it≠c.at_):
  WalksU prog w A it (accFp it a C) [it] C.length (accPt C) (accSt it a d C ep) (accMid it a d C ep) where
 sub:=fun b hb=>by rcases iC hb with rfl | hb;exact .head _;cases hb
 frame:=fun i h₁ h₂ s hk=>⟨hk it (.head _) _ s.1,hk a (.tail _ (.head _)) _ s.2.1,fun c hc=>hk _ (.tail _ (.tail _ (.tail _ (.tail _ (.tail _ (List.mem_map_of_mem hc)))))) _ (s.2.2 c hc)⟩
 item:=fun i s Q E hi hst hQ=>by
  have hc:C[i]? =some C[i]:=List.getElem?_eq_getElem hi
  refine next_item hst.1 hst.2.1 rfl (x:=.ref (C[i]).at_) (by simp [accXs,hc]) fun h' g b=>?_
  have keep:∀c∈C,h'.get? c.at_=some c.led.2:=fun c hm=>(b.2 _ (hic c hm).symm).trans (hst.2.2 c hm)
  exact hQ _ #[.str (st (C[i]).f) (C[i]).tf,.str (st (C[i]).p) (C[i]).tp] h' s.toks ⟨C[i],hc,rfl⟩ ⟨_,keep _ (List.getElem_mem hi),rfl,_,rfl⟩ ⟨⟨g,(b.2 _ hia.symm).trans hst.2.1,keep⟩,C[i],hc,rfl⟩ fun b' o hb e=>(b.2 b' fun z=>hb (by rw [z];exact .head _)).trans e
 go:=fun _ _ _ i T s Q _ hm hQ=>wpAny_letOwnedTupleGo_listiter (l:=a) (i:=i+1) ⟨_,hm.1.1,rfl,rfl⟩ (hQ s.heap hm.1 fun _ _ _ e=>e)
 apart:=fun i T h hm hw=>by
  obtain ⟨_,c,hc,rfl⟩:=hm
  rcases iC hw with e | hb
  ·exact hic c (List.mem_of_getElem? hc) e.symm
  ·cases hb
 done:=fun s Q E hst hQ=>by
  refine next_end hh hst.1 hst.2.1 rfl (by simp [accXs]) fun h' b=>?_
  exact hQ h' s.toks fun b' o hb e=>b b' o (fun z=>hb (by rw [z];exact .head _)) e
 self:=fun i s Q E hst hQ=>wpAny_pyIter_listiter (l:=a) (i:=i) ⟨_,hst.1,rfl,rfl⟩ hQ
def dictEs (w:World) (a:Nat):Array DictEntry:=match (tb w).get a with
 | some o=>match o.data with
  | .dict es _=>es
  | _=> #[]
 | none=> #[]
def isDict (w:World) (a:Nat):Bool:=match (tb w).get a with
 | some o=>match o.data with
  | .dict es _=>es.toList.all fun e=>match e.key with
   | .str _ _=>true
   | _=>false
  | _=>false
 | none=>false
theorem baseNs {w:World} {h:Heap} (B:BaseOk mask w h) {a:Nat} (hm:Nat.testBit mask a=true) (hd:isDict w a=true):∃o,h.get? a=some o/\∀h':Heap,h'.get? a=some o->h'.Ns a (nsFind (dictEs w a)):=by
 unfold isDict at hd
 split at hd
 ·rename_i o e
  have e2:dictEs w a=match o.data with | .dict es _=>es | _=> #[]:=by unfold dictEs;rw [e]
  split at hd
  ·rename_i es ep q
   rw [q] at e2
   refine ⟨o,B.get a o hm e (notFreed q rfl),fun h' ho=>?_⟩
   refine ⟨o,es,ep,ho,q,fun x hx=>?_,fun n=>by rw [e2]⟩
   have z:=List.all_eq_true.mp hd x (by simpa using hx)
   revert z
   cases x.key <;>intro z <;>first | exact ⟨_,_,rfl⟩ | cases z
  ·cases hd
 ·cases hd
theorem isDict3 (w:World):isDict w 3=true:=by kernel_rfl
theorem isDict0 (w:World):isDict w 0=true:=by kernel_rfl
theorem noLen3 (w:World):nsFind (dictEs w 3) "len"=none:=by kernel_rfl
theorem len0 (w:World):nsFind (dictEs w 0) "len"=some (.builtin "len"):=by kernel_rfl
section
variable {prog:Program} {w:World}
theorem len_local {A:Around} {E:Value->Shared->Prop} {s:Shared} {env:Env} {x:Str} {l:LN} {t:Nat} {pn pa pc:Pos} {m mg mb:Str->Option Value} {Q:Value->Shared->Prop} (hk:env.scope.kind=.function) (hlen:env.kindOf "len"=some .globalImplicit) (hx:env.kindOf x=some .local)
  (hd:(x==("__debug__":Str))=false) (hns:s.heap.Ns env.locals m) (hm:m x=some (.str (st l) t)) (hg:s.heap.Ns env.globals mg) (hmiss:mg "len"=none) (hb:s.heap.Ns env.builtins mb) (hv:mb "len"=some (.builtin "len")) (hfit:l.length<=100000)
  (hs:backTo pc (starEach [.Name x pa] env)=[(false,eval (.Name x pa) env)])
  (h:Q (.int (Int.ofNat l.length) (s.toks+1)) {s with toks:=s.toks+1+1}):wpAny (model prog w) A (eval (.Call (.Name "len" pn) [.Name x pa] [] pc) env) Q E s:=by
 refine wpAny_Call_NameR (Calls.Name_function_global hk hlen (Calls.loadGlobal_builtin hg hmiss hb hv ?_))
 rw [hs]
 refine Calls.callWith_builtin rfl (Calls.evalArgs_plain (Calls.spliced_cons ?_))
 refine wpAny_Name (wpAny_loadName_local hk hx hns hm (Calls.spliced_nil ?_)) hd
 have hl:(st l).length=l.length:=by simp [st,Str.length]
 refine P.len_str (by rw [hl];lia) ?_
 rw [hl];exact h
theorem quiet174 {it a:Nat} {C:LC} {env:Env} {cd:Value} {F:Nat} {href:Heap} {D U:Nat} (hg:env.globals=3) (hi3:it≠3) (hi0:it≠0) (hB:BaseOk mask w href) (hf:∀c∈C,c.f.length+c.p.length<=100000):
  QuietGenTD prog w (genEnv sc174 [] F cd 0 env) "fws" "part" [] elt174 (accFp it a C) [it] (accPt C) (fun _=>true) (fun i v=>∃c t,C[i]? =some c/\v=.int (Int.ofNat (c.f.length+c.p.length)) t) href D U where
 tests:=fun A' E' i va vb s₂ m₂ hh hd hu hP hns ha hb hk=>wpAny_pure ⟨rfl,s₂.heap,s₂.toks,rfl,fun _ _ e=>e⟩
 elt:=fun A' E' i va vb s₂ m₂ hh hd hu hP hp hns ha hb hk=>by
  obtain ⟨c,hc,e⟩:=hP
  simp only [Array.mk.injEq,List.cons.injEq,and_true] at e
  obtain ⟨rfl,rfl⟩:=e
  obtain ⟨o3,h3,n3⟩:=baseNs hB (a:=3) (by decide +kernel) (isDict3 w)
  obtain ⟨o0,h0,n0⟩:=baseNs hB (a:=0) (by decide +kernel) (isDict0 w)
  have hfc:=hf c (List.mem_of_getElem? hc)
  have k3:s₂.heap.get? 3=some o3:=hk 3 (by simp [accFp]) (by simp;exact fun e=>hi3 e.symm) _ h3
  have k0:s₂.heap.get? 0=some o0:=hk 0 (by simp [accFp]) (by simp;exact fun e=>hi0 e.symm) _ h0
  have g3:s₂.heap.Ns env.globals (nsFind (dictEs w 3)):=by rw [hg];exact n3 _ k3
  refine wpAny_BinOp (len_local (m:=m₂) rfl rfl rfl (by decide) hns ha g3 (noLen3 w) (n0 _ k0) (len0 w) (by lia) rfl ?_)
  refine len_local (m:=m₂) rfl rfl rfl (by decide) hns hb g3 (noLen3 w) (n0 _ k0) (len0 w) (by lia) rfl ?_
  refine add_int ?_
  exact ⟨⟨c,_,hc,rfl⟩,s₂.heap,_,rfl,fun _ _ e=>e⟩
end
theorem runs_size {M:Model} {Γ:PySem.Ctx} {p:Pos} {t:Sem Fin} {fs:List Frame} {s s':Shared} {e:End} (h:Runs M Γ p t fs s e s'):s.heap.objs.size<=s'.heap.objs.size:=by
 induction h <;>(try simp only [Shared.setGen,Heap.size_push,Heap.size_after_update] at *) <;>first | exact Nat.le_refl _ | assumption | exact Nat.le_trans (by assumption) (by assumption) | exact Nat.le_of_succ_le (by assumption)
section
variable {M:Model} {A:Around} {s:Shared} {c:Code} {R:Result->Shared->Prop}
theorem codeAny_Q (h:∀Qq:Result->Shared->Prop,(∀r s',R r s'->Qq r s')->codeAny M A c Qq s):codeAny M A c R s:=h R fun _ _ h=>h
theorem codeAny_size (h:codeAny M A c (fun r s'=>s.heap.objs.size<=s'.heap.objs.size->R r s') s):codeAny M A c R s:=
 fun Γ p hc hΓ=>by obtain ⟨r,s',hr,hR⟩:=h Γ p hc hΓ;exact ⟨r,s',hr,hR (runs_size hr)⟩
end
noncomputable def genO (G t1:Nat) (q:Str) (t2:Nat):Obj:={cls:=.type "generator",data:=.fields #[.int (Int.ofNat G) 0,.str "<genexpr>" t1,.str q t2]}
def code174 (it F:Nat) (cd:Value) (env:Env):Code:=.compStart (.GeneratorExp elt174 [⟨tgt174,nmE "self" 110 58 110 62,[],0⟩] sc174 ⟨110,19,110,63⟩) 0 (.ref it) .none (genEnv sc174 [] F cd 0 env)
def sSumLoop (w:World) (a d it F g L G q0 t1 t2 t3:Nat) (qs:Str) (C:LC) (ep:Nat) (cd:Value) (env:Env):Summ where
 code:=.builtin "sum.loop" ⟨[.ref g,.ref L,.int 0 0,.int 0 0],[]⟩
 need:=[(a,accO d (accXs C) ep),(it,iterO a 0),(F,frameO w [(".0",q0,.ref it)] 1),(g,genO G t1 qs t2),(L,lst [.int 0 t3] 0)]
 imm:=accLed C
 Res:=Nat
 res:=fun x=>.ok (.ret (.int (Int.ofNat (accLen C)) x))
 upd:=fun _=>[accO d (accXs C) ep]
 d:=10
 u:=30
 gneed:=[(G,code174 it F cd env)]
 gone:=4
theorem inLong_nat {n:Nat} (h:n<=100000):InLong (Int.ofNat n):=by unfold InLong;constructor <;>simp <;>lia
theorem le_accLen {C:LC} {c:Chunk} (h:c∈C):c.f.length+c.p.length<=accLen C:=by
 unfold accLen
 induction C with
 | nil=>cases h
 | cons x C ih=>
  simp only [List.map_cons,List.sum_cons]
  rcases iC h with rfl | h
  ·exact Nat.le_add_right _ _
  ·exact Nat.le_trans (ih h) (Nat.le_add_left _ _)
theorem passing_all (n:Nat):passing (fun _=>true) n 0=List.range n:=by
 unfold passing;simp
theorem nsDict {w:World} {h:Heap} {F:Nat} {es:List (Str×Nat×Value)} {ep:Nat} (hF:h.get? F=some (frameO w es ep)):h.Ns F (nsFind (ents w es)):=by
 refine ⟨_,ents w es,ep,hF,rfl,fun e he=>?_,fun _=>rfl⟩
 unfold ents at he
 simp only [List.mem_toArray,List.mem_map] at he
 obtain ⟨x,_,rfl⟩:=he
 exact ⟨_,_,rfl⟩
theorem accLen_take (C:LC) (j:Nat):accLen (C.take j)<=accLen C:=by
 induction C generalizing j with
 | nil=>simp [accLen]
 | cons c C ih=>
  cases j with
  | zero=>simp [accLen]
  | succ j=>
   have:=ih j
   simp only [accLen,List.take_succ_cons,List.map_cons,List.sum_cons] at this ⊢
   exact Nat.add_le_add_left this _
theorem accLen_pre (C:LC):∀j,j<=C.length->preSum (fun i=>Int.ofNat (((C[i]?).map fun c=>c.f.length+c.p.length).getD 0)) j=Int.ofNat (accLen (C.take j)):=by
 intro j
 induction j with
 | zero=>intro _;rfl
 | succ j ih=>
  intro hj
  have hc:C[j]? =some C[j]:=List.getElem?_eq_getElem hj
  unfold preSum
  have e:C.take (j+1)=C.take j++[C[j]]:=by rw [List.take_add_one,hc];rfl
  have e2:accLen (C.take j++[C[j]])=accLen (C.take j)+(C[j].f.length+C[j].p.length):=by
   simp only [accLen,List.map_append,List.sum_append,List.map_cons,List.map_nil,List.sum_cons,List.sum_nil];rfl
  rw [ih (Nat.le_of_succ_le hj),hc,e,e2]
  rfl
theorem sSumLoop_valid {w:World} {a d it F g L G q0 t1 t2 t3:Nat} {qs:Str} {C:LC} {ep:Nat} {cd:Value} {env:Env} (henv:env.globals=3) (hC:accLen C<=100000):
  Vd w (sSumLoop w a d it F g L G q0 t1 t2 t3 qs C ep cd env):=fun A s room base need imm nodup msk gn=>by
 have ha:s.heap.get? a=some (accO d (accXs C) ep):=need _ (.head _)
 have hit:s.heap.get? it=some (iterO a 0):=need _ (.tail _ (.head _))
 have hF:s.heap.get? F=some (frameO w [(".0",q0,.ref it)] 1):=need _ (.tail _ (.tail _ (.head _)))
 have hg:s.heap.get? g=some (genO G t1 qs t2):=need _ (.tail _ (.tail _ (.tail _ (.head _))))
 have hL:s.heap.get? L=some (lst [.int 0 t3] 0):=need _ (.tail _ (.tail _ (.tail _ (.tail _ (.head _)))))
 have mit:Nat.testBit mask it=false:=msk _ (.tail _ (.head _))
 have mF:Nat.testBit mask F=false:=msk _ (.tail _ (.tail _ (.head _)))
 have mg:Nat.testBit mask g=false:=msk _ (.tail _ (.tail _ (.tail _ (.head _))))
 have mL:Nat.testBit mask L=false:=msk _ (.tail _ (.tail _ (.tail _ (.tail _ (.head _)))))
 have nd:([a,it,F,g,L]:LN).Nodup:=nodup
 have himm:∀c∈C,s.heap.get? c.at_=some c.led.2/\c.at_∉[a,it,F,g,L]:=fun c hc=>imm c.led (List.mem_map_of_mem hc)
 have n3:Nat.testBit mask 3=true:=by decide +kernel
 have n0:Nat.testBit mask 0=true:=by decide +kernel
 have n2:Nat.testBit mask 2=true:=by decide +kernel
 have ne:∀{x y:Nat},Nat.testBit mask x=false->Nat.testBit mask y=true->x≠y:=fun h1 h2 e=>by rw [e,h2] at h1;cases h1
 obtain ⟨⟨nai,naF,nag,naL⟩,⟨niF,nig,niL⟩,⟨nFg,nFL⟩,ngL⟩:=nd5i nd
 have hfc:∀c∈C,c.f.length+c.p.length<=100000:=fun c hc=>by
  have:=le_accLen hc
  exact leX ‹_› ‹_› rfl
 have notFp:∀x,Nat.testBit mask x=false->x≠it->x≠a->(∀c∈C,c.at_≠x)->x∉accFp it a C:=fun x hx h1 h2 h3 hm=>by
  unfold accFp at hm
  simp only [List.mem_cons,List.mem_map] at hm
  rcases hm with e | e | e | e | e | ⟨c,hc,e⟩
  ·exact h1 e
  ·exact h2 e
  ·exact ne hx n2 e
  ·exact ne hx n3 e
  ·exact ne hx n0 e
  ·exact h3 c hc e
 have cF:∀c∈C,c.at_≠F:=fun c hc e=>(himm c hc).2 (by simp [e])
 have cg:∀c∈C,c.at_≠g:=fun c hc e=>(himm c hc).2 (by simp [e])
 have cL:∀c∈C,c.at_≠L:=fun c hc e=>(himm c hc).2 (by simp [e])
 have ci:∀c∈C,it≠c.at_:=fun c hc e=>(himm c hc).2 (by simp [e])
 have hroom:A.in1.depth<recursionLimit:=Nat.lt_of_le_of_lt (Nat.le_add_right A.depth _) room.depth
 let Fv:Nat->Value->Prop:=fun i v=>∃c t,C[i]? =some c/\v=.int (Int.ofNat (c.f.length+c.p.length)) t
 have W0:∀A':Around,A'.handled=none->WalksU pw w A' it (accFp it a C) [it] C.length (accPt C) (accSt it a d C ep) (accMid it a d C ep):=fun A' hh=>accWalks hh it a d C ep (Ne.symm nai) ci
 have W:=WalksS.genexpQ (prog:=pw) (w:=w) (A:=A.in1) room.handled g G F (accFp it a C) [it] (fun _=>true) C.length Fv (Ne.symm nFg) (notFp g mg (Ne.symm nig) (Ne.symm nag) cg) (fa (.head _) fa0) hroom (show (2:Nat)∈accFp it a C by simp [accFp]) (fun e=>ne mF n2 e.symm) (show (2:Nat)∉[it] by simp;exact fun e=>ne mit n2 e.symm)
 have hgs:s.gens[G]? =some (.fresh (code174 it F cd env)):=gn _ (.head _)
 have hlim:s.heap.NoLimit:=base.lim
 have X:GenAt pw w A.in1 g G F (accFp it a C) [it] (fun _=>true) C.length Fv 0 s:=
  GenAt.freshTD (A:=A.in1) (cenv:=genEnv sc174 [] F cd 0 env) room.handled W0 (fun i vals hP=>by obtain ⟨c,_,rfl⟩:=hP;exact ⟨_,_,rfl⟩) (by decide) (fun _=>true) Fv rfl rfl rfl rfl (notFp F mF (Ne.symm niF) (Ne.symm naF) cF)
   (quiet174 henv (ne mit n3) (ne mit n0) base hfc) ⟨_,_,_,hg,rfl,rfl,rfl⟩ hgs ⟨hit,ha,fun c hc=>(himm c hc).1⟩ (nsDict hF) hlim
 refine codeAny_Q fun Qq hQq=>codeAny_size ?_
 let val:Nat->Int:=fun i=>Int.ofNat (((C[i]?).map fun c=>c.f.length+c.p.length).getD 0)
 have hpre:∀j,j<=C.length->preSum val j=Int.ofNat (accLen (C.take j)):=accLen_pre C
 have hval:∀i v,(∃i',(passing (fun _=>true) C.length 0)[i]? =some i'/\Fv i' v)->∃t,v=.int (val i) t:=fun i v ⟨i',hi',c,t,hc,hv⟩=>by
  rw [passing_all] at hi'
  obtain ⟨hlt,e⟩:=List.getElem?_eq_some_iff.mp hi'
  simp at e
  subst e
  refine ⟨t,?_⟩
  rw [hv];show _=Value.int (Int.ofNat (((C[i]?).map fun c=>c.f.length+c.p.length).getD 0)) t
  rw [hc];rfl
 have hlen:(passing (fun _=>true) C.length 0).length=C.length:=by rw [passing_all];simp
 have hfit:∀j,j<(passing (fun _=>true) C.length 0).length->InLong (val j)/\InLong (preSum val (j+1)):=fun j hj=>by
  rw [hlen] at hj
  have h1:=hpre (j+1) hj
  have hc:C[j]? =some C[j]:=List.getElem?_eq_getElem hj
  have h2:=le_accLen (List.getElem_mem hj)
  have h3:=accLen_take C (j+1)
  constructor
  ·show InLong (Int.ofNat (((C[j]?).map fun c=>c.f.length+c.p.length).getD 0))
   rw [hc];simp only [Option.map_some,Option.getD_some]
   exact inLong_nat (Nat.le_trans h2 hC)
  ·rw [h1];exact inLong_nat (Nat.le_trans h3 hC)
 have gL:L∉g::F::accFp it a C:=fun hm=>by
  rcases iC hm with e | hm
  ·exact ngL e.symm
  ·rcases iC hm with e | hm
   ·exact nFL e.symm
   ·exact notFp L mL (Ne.symm niL) (Ne.symm naL) cL hm
 refine codeAny_sum_loopS (A:=A) W val hval hfit L gL _ 0 s t3 0 rfl (Nat.zero_le _) X hL fun s' t' hm hsz=>?_
 rw [hlen,hpre _ (Nat.le_refl _),List.take_length]
 refine hQq _ _ ⟨t',trivial,rfl,rfl,?_⟩
 have keep:∀b o,b∉[a,it,F,g,L]\/b=a->s.heap.get? b=some o->s'.heap.get? b=some o:=fun b o hb e=>hm.heap b o (fun hw=>by
  replace hw:=in3 hw
  rcases hb with hb | hb
  ·replace hb:=nn5 hb
   rcases hw with z | z | z
   ·exact hb.2.2.2.2 z
   ·exact hb.2.2.1 z
   ·exact hb.2.1 z
  ·subst hb
   rcases hw with z | z | z
   ·exact naL z
   ·exact naF z
   ·exact nai z) e
 exact ⟨fun b o hb hn=>keep b o (.inl hn) hb,fa (keep a _ (.inr rfl) ha) fa0,fun _ h=>(nomatch h),fun _ h=>(nomatch h),List.nodup_nil,hsz,hm.os,fun hb=>hm.gens.bare hb⟩
noncomputable abbrev fe (w:World) (a N:Nat):Env:=fnEnv w a N [("__class__",131)]
def sPartF (w:World) (f d q tn ts:Nat) (xs:LV) (n:Nat) (ep:Nat) (a:Nat):Summ where
 code:=.func (fnBody w 204) (fe w 204 f)
 need:=[(f,frameO w [("self",ts,.ref a)] 1),(a,accO d xs ep),(d,accD w q tn)]
 Res:=Nat
 res:=fun x=>.ok (.ret (.int (Int.ofNat n) x))
 upd:=fun _=>[frameO w [("self",ts,.ref a)] 1,accO d xs ep,accD w q tn]
 d:=20
 u:=40
def sPart (w:World) (a d q tn:Nat) (xs:LV) (n:Nat) (ep:Nat):Summ where
 code:=.call (.ref 204) ⟨[.ref a],[]⟩
 need:=[(a,accO d xs ep),(d,accD w q tn)]
 Res:=Nat
 res:=fun x=>.ok (.ret (.int (Int.ofNat n) x))
 upd:=fun _=>[accO d xs ep,accD w q tn]
 d:=25
 u:=50
def sPopN (w:World) (f d q tn ts:Nat) (xs:LV) (va:Nat) (ep:Nat) (a:Nat):Summ where
 code:=.func (fnBody w 167) (fe w 167 f)
 need:=[(f,frameO w [("self",ts,.ref a)] 1),(a,accO d (xs++[.ref va]) ep),(d,accD w q tn)]
 Res:=Nat
 res:=fun x=>.ok (.ret (.ref va))
 upd:=fun x=>[frameO w [("self",ts,.ref a)] 1,accO d xs x,accD w q tn]
 new:=fun x=>[]
 d:=40
 u:=80
def sInitF (w:World) (f d ts ti:Nat) (t0i:Nat) (ep epd:Nat) (a:Nat):Summ where
 code:=.func (fnBody w 144) (fe w 144 f)
 need:=[(f,frameO w [("self",ts,.ref a),("initial_size",ti,.int 0 t0i)] 2),(a,accO d [] ep),(d,dictO w [] epd)]
 Res:=Nat
 res:=fun x=>.ok (.ret .none)
 upd:=fun x=>[frameO w [("self",ts,.ref a),("initial_size",ti,.int 0 t0i)] 2,accO d [] ep,dictO w [("_initial_size",x,.int 0 t0i)] (epd+1)]
 new:=fun x=>[]
 d:=20
 u:=40
theorem body204 (w:World):fnBody w 204=[.Return (some (.Call (.Attribute (su ⟨125,15,125,20⟩ ⟨125,15,125,22⟩) "__len__" ⟨125,15,125,30⟩) [] [] ⟨125,15,125,32⟩)) ⟨125,8,125,32⟩]:=by kernel_rfl
theorem body167 (w:World):fnBody w 167=[nthS (fnBody w 167) 0,.Return (some (.Call (.Attribute (su ⟨107,15,107,20⟩ ⟨107,15,107,22⟩) "pop" ⟨107,15,107,26⟩) [] [] ⟨107,15,107,28⟩)) ⟨107,8,107,28⟩]:=by kernel_rfl
theorem body144 (w:World):fnBody w 144=[nthS (fnBody w 144) 0,.Expr (.Call (.Attribute (su ⟨94,8,94,13⟩ ⟨94,8,94,15⟩) "__init__" ⟨94,8,94,24⟩) [] [] ⟨94,8,94,26⟩) ⟨94,8,94,26⟩]:=by kernel_rfl
section
variable (w:World) (f:Nat)
theorem ks204:(fe w 204 f).kindOf "super"=some .globalImplicit:=by kernel_rfl
theorem kc204:(fe w 204 f).kindOf "__class__"=some .free:=by kernel_rfl
theorem ks167:(fe w 167 f).kindOf "super"=some .globalImplicit:=by kernel_rfl
theorem kc167:(fe w 167 f).kindOf "__class__"=some .free:=by kernel_rfl
theorem ks144:(fe w 144 f).kindOf "super"=some .globalImplicit:=by kernel_rfl
theorem kc144:(fe w 144 f).kindOf "__class__"=some .free:=by kernel_rfl
theorem in144:interactive (fe w 144 f)=false:=by kernel_rfl
theorem sw144:swapsWith (.Call (.Attribute (su ⟨94,8,94,13⟩ ⟨94,8,94,15⟩) "__init__" ⟨94,8,94,24⟩) [] [] ⟨94,8,94,26⟩) none 94 (fe w 144 f)=pure false:=by kernel_rfl
end
section
variable {M:Model} {A:Around} {w:World} (f:Nat)
theorem t204_le:Le M A (.func (fnBody w 204) (fe w 204 f)) (PySem.W.ZFast.zw6166051217830970016 (fe w 204 f)) (denote table (.func (fnBody w 204) (fe w 204 f))):=by
 rw [←PySem.W.ZFast.ze6166051217830970016,funcT_eq]
 refine funcT_le ?_
 have h:Le M A (.func (fnBody w 204) (fe w 204 f)) (seqT (returnT ⟨125,8,125,32⟩ (superCallT (fe w 204 f) 204 (su ⟨125,15,125,20⟩ ⟨125,15,125,22⟩) ⟨125,15,125,22⟩ "__len__" ⟨125,15,125,30⟩ ⟨125,15,125,32⟩)) (execs [] (fe w 204 f)))
   (execs [.Return (some (.Call (.Attribute (su ⟨125,15,125,20⟩ ⟨125,15,125,22⟩) "__len__" ⟨125,15,125,30⟩) [] [] ⟨125,15,125,32⟩)) ⟨125,8,125,32⟩] (fe w 204 f)):=
  seqT_le (returnT_le (superCallT_le (ks204 w f) (kc204 w f) (by decide +kernel) rfl)) (Le.refl _)
 rw [←body204 w] at h
 exact h
theorem t167_le:Le M A (.func (fnBody w 167) (fe w 167 f)) (PySem.W.ZFast.zw8784272552049987148 (nthS (fnBody w 167) 0) (fe w 167 f)) (denote table (.func (fnBody w 167) (fe w 167 f))):=by
 rw [←PySem.W.ZFast.ze8784272552049987148,funcT_eq]
 refine funcT_le ?_
 have h:Le M A (.func (fnBody w 167) (fe w 167 f)) (seqT (exec (nthS (fnBody w 167) 0) (fe w 167 f)) (seqT (returnT ⟨107,8,107,28⟩ (superCallT (fe w 167 f) 167 (su ⟨107,15,107,20⟩ ⟨107,15,107,22⟩) ⟨107,15,107,22⟩ "pop" ⟨107,15,107,26⟩ ⟨107,15,107,28⟩)) (execs [] (fe w 167 f))))
   (execs [nthS (fnBody w 167) 0,.Return (some (.Call (.Attribute (su ⟨107,15,107,20⟩ ⟨107,15,107,22⟩) "pop" ⟨107,15,107,26⟩) [] [] ⟨107,15,107,28⟩)) ⟨107,8,107,28⟩] (fe w 167 f)):=
  seqT_le (Le.refl _) (seqT_le (returnT_le (superCallT_le (ks167 w f) (kc167 w f) (by decide +kernel) rfl)) (Le.refl _))
 rw [←body167 w] at h
 exact h
theorem t144_le:Le M A (.func (fnBody w 144) (fe w 144 f)) (PySem.W.ZFast.zw3787026790023779837 (nthS (fnBody w 144) 0) (fe w 144 f)) (denote table (.func (fnBody w 144) (fe w 144 f))):=by
 rw [←PySem.W.ZFast.ze3787026790023779837,funcT_eq]
 refine funcT_le ?_
 have h:Le M A (.func (fnBody w 144) (fe w 144 f)) (seqT (exec (nthS (fnBody w 144) 0) (fe w 144 f)) (seqT (exprT ⟨94,8,94,26⟩ (.Call (.Attribute (su ⟨94,8,94,13⟩ ⟨94,8,94,15⟩) "__init__" ⟨94,8,94,24⟩) [] [] ⟨94,8,94,26⟩) (superCallT (fe w 144 f) 144 (su ⟨94,8,94,13⟩ ⟨94,8,94,15⟩) ⟨94,8,94,15⟩ "__init__" ⟨94,8,94,24⟩ ⟨94,8,94,26⟩)) (execs [] (fe w 144 f))))
   (execs [nthS (fnBody w 144) 0,.Expr (.Call (.Attribute (su ⟨94,8,94,13⟩ ⟨94,8,94,15⟩) "__init__" ⟨94,8,94,24⟩) [] [] ⟨94,8,94,26⟩) ⟨94,8,94,26⟩] (fe w 144 f)):=
  seqT_le (Le.refl _) (seqT_le (exprT_le (superCallT_le (ks144 w f) (kc144 w f) (by decide +kernel) rfl) (in144 w f) (sw144 w f)) (Le.refl _))
 rw [←body144 w] at h
 exact h
end
theorem vHiT {S:Nat->World->Summ} (hm:∀a w,a∈(S a w).need.map (·.1)) (p:∀(a:Nat) (w:World) (s:Shared) (_ _:Nat),PfS w (S a w) s) (T:World->Sem Fin) (hT:∀w a A,RoomOk A (S a w)->Le (model pw w) (A.under (S a w).code) (S a w).code (T w) (denote table (S a w).code)) (H:(allN (fun a=>allN (okT T [] (p a)) ws1) lows/\∀a,allN (okT T [] (p (a+314))) ws1)=(allN (fun a=>allN (trP [] (p a)) ws1) lows/\∀a,allN (trP [] (p (a+314))) ws1)):∀w a,Vd w (S a w):=fun w a=>by
 obtain ⟨g,hg,w0,rfl⟩:=ws1_all w
 have h:=H.mpr ⟨allN_mk (fun _=>allN_mk trP_true _) _,fun _=>allN_mk trP_true _⟩
 exact valid_high (S:=fun a=>S a (g w0)) a (hm a _) (fun a ha=>valid_own (own_P (allN_of (allN_of h.1 a ha) g hg) roNil w0) (hT _ a)) fun b=>valid_own (own_P (allN_of (h.2 b) g hg) roNil w0) (hT _ _)
theorem sPartF_valid (w:World) {f d q tn ts:Nat} {xs:LV} {n:Nat} {ep:Nat} (a:Nat) (hn:n=xs.length):Vd w (sPartF w f d q tn ts xs n ep a):=by
 subst hn
 revert w a
 refine vHiT (fun _ _=>.tail _ (.head _)) ?_ (fun w=>PySem.W.ZFast.zw6166051217830970016 (fe w 204 f)) (fun w _ A _=>t204_le f) ?_
 ·exact fun a w s N0 t0 G_ D_ I_=>
   endQ D_ 0x40240002c0002c000240000000000080200800008000080200802008020080200002409000000200002008000000000000000018000000000000 (t0+1) [0,3,6] [] [] fun s' O=>⟨t0+1,trivial,rfl,rfl,O⟩
 kernel_rfl
theorem sPart_valid (w:World) {a d q tn:Nat} {xs:LV} {n:Nat} {ep:Nat} (hn:n=xs.length):Vd w (sPart w a d q tn xs n ep):=
 by
 revert w
 refine vOne ?_ ?_
 ·exact fun w s N0 t0 G_ D_ I_=>
   .use 0x1000080200000002 (sPartF w N0 d q tn t0 xs n ep a) [2,0,3] [] [] (sPartF_valid _ _ hn) (noImm rfl) fun x1 N1 t1 _=>
   endQ D_ 0x4 x1 [0,3] [] [] fun s' O=>⟨x1,trivial,rfl,rfl,O⟩
 kernel_rfl
theorem sPopN_valid (w:World) {f d q tn ts:Nat} {xs:LV} {va:Nat} {ep:Nat} (a:Nat) (hx:xs.length<=100000):Vd w (sPopN w f d q tn ts xs va ep a):=by
 have hn:xs.length+1=(xs++[Value.ref va]).length:=by simp
 revert w a
 refine vHiT (fun _ _=>.tail _ (.head _)) ?_ (fun w=>PySem.W.ZFast.zw8784272552049987148 (nthS (fnBody w 167) 0) (fe w 167 f)) (fun w _ A _=>t167_le f) ?_
 ·exact fun a w s N0 t0 G_ D_ I_=>
   .use 0x4000300900000000000240000000024000000002406 (sPart w a d q tn (xs++[Value.ref va]) (xs.length+1) ep) [3,6] [] [] (sPart_valid _ hn) (noImm rfl) fun x1 N1 t1 _=>
   .use 0x100000024090000902c0002c00024000000000008020080000800008020080200802008020000240900000020000200800000000000000001800000000000000000 (sPopLast (Value.ref 207) (some d) a xs (Value.ref va) ep) [3] [] [] (sPopLast_valid hx) (noImm rfl) fun x2 N2 t2 _=>
   endQ D_ 0x4 x2 [0,3,6] [] [] fun s' O=>⟨x2,trivial,rfl,rfl,O⟩
 kernel_rfl
theorem sInitF_valid (w:World) {f d ts ti t0i:Nat} {ep epd:Nat} (a:Nat):Vd w (sInitF w f d ts ti t0i ep epd a):=by
 revert w a
 refine vHiT (fun _ _=>.tail _ (.head _)) ?_ (fun w=>PySem.W.ZFast.zw3787026790023779837 (nthS (fnBody w 144) 0) (fe w 144 f)) (fun w _ A _=>t144_le f) ?_
 ·exact fun a w s N0 t0 G_ D_ I_=>
   endQ D_ 0x402409024090000b0000b00009000000000002008020000200002008020080200802008000090240000008000080200000000000000000600000000000000c0300c000090000000009000090000002400000000000901806 (t0+1) [0,3,6] [] [] fun s' O=>⟨t0+1,trivial,rfl,rfl,O⟩
 kernel_rfl
def sCPopN (w:World) (a d q tn:Nat) (xs:LV) (va:Nat) (ep:Nat):Summ where
 code:=.call (.ref 167) ⟨[.ref a],[]⟩
 need:=[(a,accO d (xs++[.ref va]) ep),(d,accD w q tn)]
 Res:=Nat
 res:=fun x=>.ok (.ret (.ref va))
 upd:=fun x=>[accO d xs x,accD w q tn]
 new:=fun x=>[]
 d:=45
 u:=90
theorem sCPopN_valid (w:World) {a d q tn:Nat} {xs:LV} {va:Nat} {ep:Nat} (hx:xs.length<=100000):Vd w (sCPopN w a d q tn xs va ep):=
 by
 revert w
 refine vOne ?_ ?_
 ·exact fun w s N0 t0 G_ D_ I_=>
   .use 0x1000080200000002 (sPopN w N0 d q tn t0 xs va ep a) [2,0,3] [] [] (sPopN_valid _ _ hx) (noImm rfl) fun x1 N1 t1 _=>
   endQ D_ 0x4 x1 [0,3] [] [] fun s' O=>⟨x1,trivial,rfl,rfl,O⟩
 kernel_rfl
theorem strNew_eq (x:Value):Builtin.«str.__new__» ⟨[.type "str",x],[]⟩=(do let made ←Builtin.Str.strOf x;ret made):=by kernel_rfl
noncomputable def strT (x:Value):Sem Fin:=do
 match ←callSpecial? x "__str__" with
 | some (.str s t)=>ret (.str s t)
 | _=>PySem.unsupported "no"
theorem Le.skip {α:Type} {M:Model} {A:Around} {c:Code} {m:Sem Unit} {f:Unit->Sem α} {t:Sem α} (h:∀(Γ:PySem.Ctx) (p:Pos) (s:Shared) (Q:Unit->Pos->Shared->Prop) (E:Value->Pos->Shared->Prop),Γ.code=c->Γ.In A->Q () p s->Sem.wp M Γ m Q E p s) (hf:Le M A c t (f ())):Le M A c t (m>>=f):=fun Γ p s Q E hc hΓ hw=>by
 rw [Sem.wp_bind']
 exact h Γ p s _ _ hc hΓ (hf Γ p s Q E hc hΓ hw)
theorem entry_str_new:entryFor table "str.__new__"=some Builtin.«str.__new__»:=entryFor_of_tree (by kernel_rfl)
theorem strT_le {prog:Program} {w:World} {A:Around} (a:Nat) (hu:A.units<cLine):Le (model prog w) A (.builtin "str.__new__" ⟨[.type "str",.ref a],[]⟩) (strT (.ref a)) (denote table (.builtin "str.__new__" ⟨[.type "str",.ref a],[]⟩)):=by
 rw [den_b entry_str_new]
 show Le _ _ _ _ (Builtin.«str.__new__» ⟨[.type "str",.ref a],[]⟩)
 rw [strNew_eq]
 unfold Builtin.Str.strOf strT
 show Le _ _ _ _ ((cRoomFor "str" [.ref a]>>=_)>>=_)
 rw [bind_assoc]
 refine Le.skip (fun Γ p s Q E hc hΓ h=>Sem.wp_cRoomFor "str" _ (Nat.lt_of_le_of_lt hΓ.2.2.2.2 hu) h) ?_
 rw [bind_assoc]
 refine Le.bind (Le.refl _) fun r=>?_
 cases r with
 | none=>exact Le.unsupported _
 | some r=>
  cases r <;>first | exact Le.unsupported _ | skip
  exact Le.of_eq rfl
end Mine
lay_z Mine.strT
namespace Mine
noncomputable def tab (l c:Int) (o:ON):Obj:={cls:=.none,data:=.fields (match o with | none=> #[] | some cd=> #[.int l 0,.int c 0,.ref cd])}
def sLenF (w:World) (f a d q tn ts:Nat) (C:LC) (ep:Nat) (tb0:ON):Summ where
 code:=.func (fnBody w 174) (fnEnv w 174 f [])
 need:=[(f,frameO w [("self",ts,.ref a)] 1),(a,accO d (accXs C) ep),(d,accD w q tn),(169,tab 110 19 tb0)]
 imm:=accLed C
 Res:=Nat×Nat
 res:=fun x=>.ok (.ret (.int (Int.ofNat (accLen C)) x.1))
 upd:=fun x=>[frameO w [("self",ts,.ref a)] 1,accO d (accXs C) ep,accD w q tn,tab 110 19 (some x.2)]
 d:=20
 u:=50
theorem gOne {x:Nat×Code} {l m:List (Nat×Code)} (h:l=[x]):∀g∈l,g∈x::m:=fun g hg=>by
 subst h
 rcases iC hg with rfl | hg
 ·exact .head _
 ·cases hg
theorem sLenF_valid (w:World) {f a d q tn ts:Nat} {C:LC} {ep:Nat} {tb0:ON} (hC:accLen C<=100000):Vd w (sLenF w f a d q tn ts C ep tb0):=by
 have hle:∀(w:World) (A:Around),RoomOk A (sLenF w f a d q tn ts C ep tb0)->Le (model pw w) (A.under (.func (fnBody w 174) (fnEnv w 174 f []))) (.func (fnBody w 174) (fnEnv w 174 f [])) (PySem.W.ZFast.zw5498146833999220242 (fnEnv w 174 f [])) (denote table (.func (fnBody w 174) (fnEnv w 174 f []))):=fun w A room=>by
  rw [←PySem.W.ZFast.ze5498146833999220242,body174]
  refine t174_le ?_
  have h1:A.depth+20<recursionLimit:=room.depth
  show A.depth+1<recursionLimit
  lia
 cases tb0 with
 | none=>
  revert w
  refine vTree (fun w=>PySem.W.ZFast.zw5498146833999220242 (fnEnv w 174 f [])) [] roNil (fun w A r=>le_code rfl (hle w A r)) ?_ ?_
  ·exact fun w s N0 t0 G_ D_ I_=>
    .gen 0x5050140000003c0f03c0f000000200000009000000000002400000000240600000 (code174 N0 (N0+4) (Value.ref (N0+3)) (fnEnv w 174 f [])) fun G1=>
    .useG 0x105c0005c0005c170000003000024090000000009000000240000000000000000002406 none (sSumLoop w a d N0 (N0+4) (N0+5) (N0+6) G1 (t0+5) (t0+6) (t0+7) (t0+9) (Str.ofString "_Accumulator.__len__.<locals>.<genexpr>") C ep (Value.ref (N0+3)) (fnEnv w 174 f [])) [3,2,14,17,20] [] [] (sSumLoop_valid rfl hC) (inJ I_) (gOne rfl) fun x1 N1 t1 _ _=>
    endQ D_ 0x4 (x1,N0+3) [0,3,6,9] [] [] fun s' O=>⟨(x1,N0+3),trivial,rfl,rfl,O⟩
  kernel_rfl
 | some cd=>
  revert w
  refine vTree (fun w=>PySem.W.ZFast.zw5498146833999220242 (fnEnv w 174 f [])) [] roNil (fun w A r=>le_code rfl (hle w A r)) ?_ ?_
  ·exact fun w s N0 t0 G_ D_ I_=>
    .gen 0x140b02c000000f000000200000009000000000002400000000240600000 (code174 N0 (N0+1) (Value.ref cd) (fnEnv w 174 f [])) fun G1=>
    .useG 0x103800038000380e0000003000024090000000009000000240000000000000000002406 none (sSumLoop w a d N0 (N0+1) (N0+2) (N0+3) G1 t0 (t0+1) (t0+2) (t0+4) (Str.ofString "_Accumulator.__len__.<locals>.<genexpr>") C ep (Value.ref cd) (fnEnv w 174 f [])) [3,2,5,8,11] [] [] (sSumLoop_valid rfl hC) (inJ I_) (gOne rfl) fun x1 N1 t1 _ _=>
    endQ D_ 0x4 (x1,cd) [0,3,6,9] [] [] fun s' O=>⟨(x1,cd),trivial,rfl,rfl,O⟩
  kernel_rfl
def sCLen (w:World) (a d q tn:Nat) (C:LC) (ep:Nat) (tb0:ON):Summ where
 code:=.call (.ref 174) ⟨[.ref a],[]⟩
 need:=[(a,accO d (accXs C) ep),(d,accD w q tn),(169,tab 110 19 tb0)]
 imm:=accLed C
 Res:=Nat×Nat
 res:=fun x=>.ok (.ret (.int (Int.ofNat (accLen C)) x.1))
 upd:=fun x=>[accO d (accXs C) ep,accD w q tn,tab 110 19 (some x.2)]
 d:=25
 u:=60
theorem sCLen_valid (w:World) {a d q tn:Nat} {C:LC} {ep:Nat} {tb0:ON} (hC:accLen C<=100000):Vd w (sCLen w a d q tn C ep tb0):=
 by
 revert w
 refine vOne ?_ ?_
 ·exact fun w s N0 t0 G_ D_ I_=>
   .ui 0x1000080200000002 (sLenF w N0 a d q tn t0 C ep tb0) [2,0,3,6] [] (sLenF_valid _ hC) (inJ I_) tt fun x1 N1 t1=>
   endQ D_ 0x4 x1 [0,3,6] [] [] fun s' O=>⟨x1,trivial,rfl,rfl,O⟩
 kernel_rfl
end Mine
open Builtin Builtin.Str Builtin.Int
namespace Mine
section
variable {prog:Program} {w:World} {A:Around} {E:Value->Shared->Prop} {s:Shared}
theorem call_join_tuple {D:Nat} {o:Obj} {n:Nat} {l:List (Str×Tok)} {x:Str} {t:Nat} {Q:Value->Shared->Prop} (ho:s.heap.get? D=some o) (hc:o.cls=.type "tuple") (hd:o.data=.seq (strValues l).toArray n) (hok:JoinOk x (l.map (·.1))=true)
  (hq:∀t' k,Q (.str (Txt.join x (l.map (·.1))) t') {s with toks:=k}):wpAny (model prog w) A (call (.builtin "str.join") [.str x t,.ref D]) Q E s:=by
 refine wpAny_call (codeAny_call_builtin F.slot_str_join.plain F.entry_str_join (F.slot_str_join.check _ _ _ _ _ _ _ _ (typeIs_str _ _ _) (F.args_str_join_2 _ _) ?_))
 rw [join_tree_other]
 refine wpAny_bind (wpAny_typeOf (T:="tuple") ⟨o,ho,hc⟩ ?_)
 rw [if_pos (by decide)]
 refine wpAny_bind (wpAny_seqItems ho hd ?_)
 unfold JoinOk at hok
 rw [Bool.not_eq_true'] at hok
 have g:Gives (joinTail x (strValues l)) (joinMade x l):=by
  have g0:=gives_joinTail x l hok
  cases l with
  | nil=>exact g0
  | cons p r=>cases r with
   | nil=>exact g0
   | cons q r'=>exact g0
 exact g prog w A (wants Q E) s (post_join l ⟨joinFit_length (by simpa using hok),hq⟩)
end
noncomputable def glue (sep:LN):List LN->LN
 | []=>[]
 | l::ls=>l++ls.flatMap fun p=>sep++p
theorem st_cps (l:LN):(st l).cps=l.toArray:=rfl
theorem st_len (l:LN):(st l).length=l.length:=by simp [st,Str.length]
theorem join_st (sep:LN) (ls:List LN):Txt.join (st sep) (ls.map st)=st (glue sep ls):=by
 show Str.mk _=Str.mk _
 congr 1
 cases ls with
 | nil=>rfl
 | cons l ls=>
  show ((((l::ls).map st).drop 1).foldl (fun acc p=>acc++(st sep).cps++p.cps) (((l::ls).map st).headD Str.empty).cps)=(l++ls.flatMap fun p=>sep++p).toArray
  simp only [List.map_cons,List.drop_succ_cons,List.drop_zero,List.headD_cons,st_cps]
  have:∀(ls:List LN) (a:LN),(ls.map st).foldl (fun acc p=>acc++sep.toArray++p.cps) a.toArray=(a++ls.flatMap fun p=>sep++p).toArray:=by
   intro ls
   induction ls with
   | nil=>intro a;simp
   | cons p ls ih=>
    intro a
    simp only [List.map_cons,List.foldl_cons,st_cps,List.append_toArray]
    rw [ih]
    simp
  exact this ls l
theorem joinOk_st (sep:LN) (ls:List LN) (h:(ls.map List.length).sum+ls.length*sep.length<=200000):JoinOk (st sep) (ls.map st)=true:=by
 unfold JoinOk tooLong
 have:∀(ls:List LN) (n:Nat),(ls.map st).foldl (fun a p=>a+p.length+(st sep).length) n=n+((ls.map List.length).sum+ls.length*sep.length):=by
  intro ls
  induction ls with
  | nil=>intro n;simp
  | cons p ls ih=>
   intro n
   simp only [List.map_cons,List.foldl_cons,List.sum_cons,List.length_cons,st_len] at ih ⊢
   rw [ih,Nat.add_mul]
   lia
 rw [List.foldl_toArray',this]
 ·have:=sizeLine_eq
  simp;lia
 ·simp
theorem glue_nil (ls:List LN):glue [] ls=ls.flatten:=by
 cases ls with
 | nil=>rfl
 | cons l ls=>simp [glue,List.flatMap_id']
end Mine
open Builtin Builtin.Str Builtin.Int
namespace Mine
theorem empty3 (w:World):nsFind (dictEs w 3) "EMPTYSTRING"=some (.str (st []) 332):=by kernel_rfl
theorem quiet181 {w:World} {it a:Nat} {C:LC} {env:Env} {cd:Value} {F:Nat} {href:Heap} {D U:Nat} (hg:env.globals=3) (hi3:it≠3) (hB:BaseOk mask w href) (hf:∀c∈C,c.f.length+c.p.length<=100000):
  QuietGenTD pw w (genEnv sc181 [] F cd 0 env) "fws" "part" [] elt181 (accFp it a C) [it] (accPt C) (fun _=>true) (fun i v=>∃c t,C[i]? =some c/\v=.str (st (c.f++c.p)) t) href D U where
 tests:=fun A' E' i va vb s₂ m₂ hh hd hu hP hns ha hb hk=>wpAny_pure ⟨rfl,s₂.heap,s₂.toks,rfl,fun _ _ e=>e⟩
 elt:=fun A' E' i va vb s₂ m₂ hh hd hu hP hp hns ha hb hk=>by
  obtain ⟨c,hc,e⟩:=hP
  simp only [Array.mk.injEq,List.cons.injEq,and_true] at e
  obtain ⟨rfl,rfl⟩:=e
  obtain ⟨o3,h3,n3⟩:=baseNs hB (a:=3) (by decide +kernel) (isDict3 w)
  have hfc:=hf c (List.mem_of_getElem? hc)
  have k3:s₂.heap.get? 3=some o3:=hk 3 (by simp [accFp]) (by simp;exact fun e=>hi3 e.symm) _ h3
  have g3:s₂.heap.Ns env.globals (nsFind (dictEs w 3)):=by rw [hg];exact n3 _ k3
  refine wpAny_Call_method rfl rfl rfl PySem.F.plainAttrs_str PySem.F.slot_str_join PySem.F.type_str_join (Calls.Name_function_global rfl rfl (Calls.loadGlobal_global g3 (empty3 w) ⟨typeIs_str _ _ _,(fun _ e=>nomatch e),?_⟩) (by decide))
  refine Calls.callWith_builtin rfl (Calls.evalArgs_plain (Calls.spliced_cons ?_))
  refine wpAny_Tuple (k:=0) ?_
  refine Calls.spliced_cons (wpAny_Name (wpAny_loadName_local rfl rfl hns ha ?_) (by decide))
  refine Calls.spliced_cons (wpAny_Name (wpAny_loadName_local rfl rfl hns hb (Calls.spliced_nil ?_)) (by decide))
  refine ⟨by rw [sizeLine_eq];show (2:Nat)<=_;decide,Calls.spliced_nil ?_⟩
  refine call_join_tuple (l:=[(st c.f,c.tf),(st c.p,c.tp)]) (Heap.get?_push_size _ rfl) rfl rfl (joinOk_st [] [c.f,c.p] (by simp;exact leT ‹_› rfl)) fun t' k=>?_
  have e:Txt.join (st []) ([(st c.f,c.tf),(st c.p,c.tp)].map (·.1))=st (c.f++c.p):=by
   have:=join_st [] [c.f,c.p]
   rw [glue_nil] at this
   simpa using this
  rw [e]
  exact ⟨⟨c,t',hc,rfl⟩,_,_,rfl,fun _ _ e=>Heap.get?_push_of_some _ e⟩
def code181 (it F:Nat) (cd:Value) (env:Env):Code:=.compStart (.GeneratorExp elt181 [⟨tgt181,nmE "self" 113 80 113 84,[],0⟩] sc181 ⟨113,32,113,85⟩) 0 (.ref it) .none (genEnv sc181 [] F cd 0 env)
def sJoinGen (w:World) (a d it F g G q0 t1 t2 tj:Nat) (qs:Str) (C:LC) (ep:Nat) (cd:Value) (env:Env):Summ where
 code:=.builtin "str.join" ⟨[.str (st []) tj,.ref g],[]⟩
 need:=[(a,accO d (accXs C) ep),(it,iterO a 0),(F,frameO w [(".0",q0,.ref it)] 1),(g,genO G t1 qs t2)]
 imm:=accLed C
 Res:=Nat
 res:=fun x=>.ok (.ret (.str (st (accTx C)) x))
 upd:=fun _=>[accO d (accXs C) ep]
 d:=10
 u:=30
 gneed:=[(G,code181 it F cd env)]
 gone:=3
theorem accTx_len (C:LC):(accTx C).length=accLen C:=by
 induction C with
 | nil=>rfl
 | cons c C ih=>
  simp only [accTx,accLen,List.flatMap_cons,List.length_append,List.map_cons,List.sum_cons] at ih ⊢
  lia
theorem strs_of:∀(C:LC) (vs:LV),vs.length=C.length->(∀(j:Nat) (v:Value),vs[j]? =some v->∃(c:Chunk) (t:Nat),C[j]? =some c/\v=Value.str (st (c.f++c.p)) t)->∃l:List (Str×Tok),strValues l=vs/\l.map (·.1)=C.map fun c=>st (c.f++c.p)
 | [],[],_,_=>⟨[],rfl,rfl⟩
 | [],_::_,h,_=>by simp at h
 | _::_,[],h,_=>by simp at h
 | c::C,v::vs,h,hv=>by
  obtain ⟨c',t,hc,rfl⟩:=hv 0 v rfl
  simp only [List.getElem?_cons_zero,Option.some.injEq] at hc
  subst hc
  obtain ⟨l,h1,h2⟩:=strs_of C vs (by simpa using h) fun j v hj=>by simpa using hv (j+1) v (by simpa using hj)
  exact ⟨(st (c.f++c.p),t)::l,by simp only [strValues,List.map_cons] at h1 ⊢;rw [h1],by simp only [List.map_cons,h2]⟩
theorem sJoinGen_valid {w:World} {a d it F g G q0 t1 t2 tj:Nat} {qs:Str} {C:LC} {ep:Nat} {cd:Value} {env:Env} (henv:env.globals=3) (hC:accLen C<=100000) (hn:C.length<=100000):
  Vd w (sJoinGen w a d it F g G q0 t1 t2 tj qs C ep cd env):=fun A s room base need imm nodup msk gn=>by
 have ha:s.heap.get? a=some (accO d (accXs C) ep):=need _ (.head _)
 have hit:s.heap.get? it=some (iterO a 0):=need _ (.tail _ (.head _))
 have hF:s.heap.get? F=some (frameO w [(".0",q0,.ref it)] 1):=need _ (.tail _ (.tail _ (.head _)))
 have hg:s.heap.get? g=some (genO G t1 qs t2):=need _ (.tail _ (.tail _ (.tail _ (.head _))))
 have mit:Nat.testBit mask it=false:=msk _ (.tail _ (.head _))
 have mF:Nat.testBit mask F=false:=msk _ (.tail _ (.tail _ (.head _)))
 have mg:Nat.testBit mask g=false:=msk _ (.tail _ (.tail _ (.tail _ (.head _))))
 have nd:([a,it,F,g]:LN).Nodup:=nodup
 have himm:∀c∈C,s.heap.get? c.at_=some c.led.2/\c.at_∉[a,it,F,g]:=fun c hc=>imm c.led (List.mem_map_of_mem hc)
 have n3:Nat.testBit mask 3=true:=by decide +kernel
 have n0:Nat.testBit mask 0=true:=by decide +kernel
 have n2:Nat.testBit mask 2=true:=by decide +kernel
 have ne:∀{x y:Nat},Nat.testBit mask x=false->Nat.testBit mask y=true->x≠y:=fun h1 h2 e=>by rw [e,h2] at h1;cases h1
 obtain ⟨⟨nai,naF,nag⟩,⟨niF,nig⟩,nFg⟩:=nd4 nd
 have hfc:∀c∈C,c.f.length+c.p.length<=100000:=fun c hc=>by
  have:=le_accLen hc
  exact leX ‹_› ‹_› rfl
 have notFp:∀x,Nat.testBit mask x=false->x≠it->x≠a->(∀c∈C,c.at_≠x)->x∉accFp it a C:=fun x hx h1 h2 h3 hm=>by
  unfold accFp at hm
  simp only [List.mem_cons,List.mem_map] at hm
  rcases hm with e | e | e | e | e | ⟨c,hc,e⟩
  ·exact h1 e
  ·exact h2 e
  ·exact ne hx n2 e
  ·exact ne hx n3 e
  ·exact ne hx n0 e
  ·exact h3 c hc e
 have cF:∀c∈C,c.at_≠F:=fun c hc e=>(himm c hc).2 (by simp [e])
 have cg:∀c∈C,c.at_≠g:=fun c hc e=>(himm c hc).2 (by simp [e])
 have ci:∀c∈C,it≠c.at_:=fun c hc e=>(himm c hc).2 (by simp [e])
 have hroom:A.in1.in1.depth<recursionLimit:=by have:=room.depth;show A.depth<_;lia
 let Fv:Nat->Value->Prop:=fun i v=>∃c t,C[i]? =some c/\v=.str (st (c.f++c.p)) t
 have W0:∀A':Around,A'.handled=none->WalksU pw w A' it (accFp it a C) [it] C.length (accPt C) (accSt it a d C ep) (accMid it a d C ep):=fun A' hh=>accWalks hh it a d C ep (Ne.symm nai) ci
 have W:=WalksS.genexpQ (prog:=pw) (w:=w) (A:=A.in1.in1) room.handled g G F (accFp it a C) [it] (fun _=>true) C.length Fv (Ne.symm nFg) (notFp g mg (Ne.symm nig) (Ne.symm nag) cg) (fa (.head _) fa0) hroom (show (2:Nat)∈accFp it a C by simp [accFp]) (fun e=>ne mF n2 e.symm) (show (2:Nat)∉[it] by simp;exact fun e=>ne mit n2 e.symm)
 have hgs:s.gens[G]? =some (.fresh (code181 it F cd env)):=gn _ (.head _)
 have hlim:s.heap.NoLimit:=base.lim
 have X:GenAt pw w A.in1.in1 g G F (accFp it a C) [it] (fun _=>true) C.length Fv 0 s:=
  GenAt.freshTD (A:=A.in1.in1) (cenv:=genEnv sc181 [] F cd 0 env) room.handled W0 (fun i vals hP=>by obtain ⟨c,_,rfl⟩:=hP;exact ⟨_,_,rfl⟩) (by decide) (fun _=>true) Fv rfl rfl rfl rfl (notFp F mF (Ne.symm niF) (Ne.symm naF) cF)
   (quiet181 henv (ne mit n3) base hfc) ⟨_,_,_,hg,rfl,rfl,rfl⟩ hgs ⟨hit,ha,fun c hc=>(himm c hc).1⟩ (nsDict hF) hlim
 have hlen:(passing (fun _=>true) C.length 0).length=C.length:=by rw [passing_all];simp
 refine codeAny_Q fun Qq hQq=>codeAny_size ?_
 show codeAny (model pw w) A (.builtin "str.join" ⟨[.str (st []) tj,.ref g],[]⟩) _ s
 refine codeB PySem.F.slot_str_join.plain PySem.F.entry_str_join ?_
 show wpAny _ A.in1 (Builtin.«str.join» ⟨[.str (st []) tj,.ref g],[]⟩) _ _ s
 rw [join_tree_other]
 have hT:∀i s,GenAt pw w A.in1.in1 g G F (accFp it a C) [it] (fun _=>true) C.length Fv i s->s.TypeIs (.ref g) "generator":=fun i s x=>x.1.typeIs
 refine wpAny_bind (wpAny_typeOf (hT 0 s X) ?_)
 show wpAny _ A.in1 ((pyIter (.ref g)).tryCatch _>>=fun it=>collect it>>=fun items=>joinTail (st []) items) _ _ s
 refine wpAny_bind (wpAny_tryCatch (W.of_in1.self 0 s _ _ X ?_))
 have lt:∀{b:Nat} {o:Obj},s.heap.get? b=some o->b<s.heap.objs.size:=fun h=>Heap.lt_size h
 have hfp:∀b∈g::F::accFp it a C,b<s.heap.objs.size:=fun b hb=>by
  unfold accFp at hb
  simp only [List.mem_cons,List.mem_map] at hb
  rcases hb with e | e | e | e | e | e | e | ⟨c,hc,e⟩
  ·rw [e];exact lt hg
  ·rw [e];exact lt hF
  ·rw [e];exact lt hit
  ·rw [e];exact lt ha
  ·rw [e];exact base.lt 2 n2
  ·rw [e];exact base.lt 3 n3
  ·rw [e];exact base.lt 0 n0
  ·rw [←e];exact lt (himm c hc).1
 refine wpAny_bind (wpAny_collect_gen (A:=A.in1) W hT X hfp (.head _) (fun s' acc hm hacc=>?_) (by rw [hlen,sizeLine_eq];exact leT ‹_› rfl))
 rw [hlen] at hacc
 obtain ⟨l,hl,hl2⟩:=strs_of C acc.toList (by have:=hacc.1;simpa using this) fun j v hj=>by
  have hj':acc[j]? =some v:=by simpa using hj
  obtain ⟨i',hi',hF⟩:=hacc.2 j v hj'
  rw [passing_all] at hi'
  obtain ⟨hlt,e⟩:=List.getElem?_eq_some_iff.mp hi'
  simp at e
  subst e
  exact hF
 rw [←hl]
 have hsum:(((C.map fun c=>c.f++c.p).map List.length).sum)=accLen C:=by
  unfold accLen;rw [List.map_map];congr 1;apply List.map_congr_left;intro c _;simp
 have hok:JoinOk (st []) (l.map (·.1))=true:=by
  rw [hl2,show (C.map fun c=>st (c.f++c.p))=(C.map fun c=>c.f++c.p).map st from by rw [List.map_map];rfl]
  refine joinOk_st [] _ ?_
  rw [hsum];simp;exact leT ‹_› rfl
 have htx:Txt.join (st []) (l.map (·.1))=st (accTx C):=by
  rw [hl2,show (C.map fun c=>st (c.f++c.p))=(C.map fun c=>c.f++c.p).map st from by rw [List.map_map];rfl,join_st,glue_nil]
  unfold accTx;rw [List.flatMap_def]
 have hok':=hok
 unfold JoinOk at hok
 rw [Bool.not_eq_true'] at hok
 have gg:Gives (joinTail (st []) (strValues l)) (joinMade (st []) l):=by
  have g0:=gives_joinTail (st []) l hok
  cases l with
  | nil=>exact g0
  | cons p r=>cases r with
   | nil=>exact g0
   | cons q r'=>exact g0
 refine wpAny_mono (gg pw w A (fun r s''=>s.heap.objs.size<=s''.heap.objs.size->Qq r s'') s' (post_join l ⟨joinFit_length (by simpa using hok),fun t' k hsz=>?_⟩)) (fun fin s'' h=>h) fun e s'' h=>h
 rw [htx]
 refine hQq _ _ ⟨t',trivial,rfl,rfl,?_⟩
 have keep:∀b o,b∉[a,it,F,g]\/b=a->s.heap.get? b=some o->s'.heap.get? b=some o:=fun b o hb e=>hm.heap b o (fun hw=>by
  replace hw:=in2 hw
  rcases hb with hb | hb
  ·replace hb:=nn4 hb
   rcases hw with z | z
   ·exact hb.2.2.1 z
   ·exact hb.2.1 z
  ·subst hb
   rcases hw with z | z
   ·exact naF z
   ·exact nai z) e
 exact ⟨fun b o hb hn=>keep b o (.inl hn) hb,fa (keep a _ (.inr rfl) ha) fa0,fun _ h=>(nomatch h),fun _ h=>(nomatch h),List.nodup_nil,hsz,hm.os,fun hb=>hm.gens.bare hb⟩
noncomputable def lenT (x:Value):Sem Fin:=do
 match ←callSpecial? x "__len__" with
 | some v=>ret v
 | none=>PySem.unsupported "no"
def sStrF (w:World) (f a d q tn ts:Nat) (C:LC) (ep:Nat) (tb0:ON):Summ where
 code:=.func (fnBody w 181) (fnEnv w 181 f [])
 need:=[(f,frameO w [("self",ts,.ref a)] 1),(a,accO d (accXs C) ep),(d,accD w q tn),(176,tab 113 32 tb0)]
 imm:=accLed C
 Res:=Nat×Nat
 res:=fun x=>.ok (.ret (.str (st (accTx C)) x.1))
 upd:=fun x=>[frameO w [("self",ts,.ref a)] 1,accO d (accXs C) ep,accD w q tn,tab 113 32 (some x.2)]
 d:=20
 u:=50
theorem sStrF_valid (w:World) {f a d q tn ts:Nat} {C:LC} {ep:Nat} {tb0:ON} (hC:accLen C<=100000) (hn:C.length<=100000):Vd w (sStrF w f a d q tn ts C ep tb0):=by
 have hle:∀(w:World) (A:Around),RoomOk A (sStrF w f a d q tn ts C ep tb0)->Le (model pw w) (A.under (.func (fnBody w 181) (fnEnv w 181 f []))) (.func (fnBody w 181) (fnEnv w 181 f [])) (PySem.W.ZFast.zw5756087965420903480 (fnEnv w 181 f [])) (denote table (.func (fnBody w 181) (fnEnv w 181 f []))):=fun w A room=>by
  rw [←PySem.W.ZFast.ze5756087965420903480,body181]
  refine t181_le ?_
  have h1:A.depth+20<recursionLimit:=room.depth
  show A.depth+1<recursionLimit
  lia
 cases tb0 with
 | none=>
  revert w
  refine vTree (fun w=>PySem.W.ZFast.zw5756087965420903480 (fnEnv w 181 f [])) [] roNil (fun w A r=>le_code rfl (hle w A r)) ?_ ?_
  ·exact fun w s N0 t0 G_ D_ I_=>
    .gen 0x1414050000000f03c0f03c000000800000024000000000009000000000901800 (code181 N0 (N0+4) (Value.ref (N0+3)) (fnEnv w 181 f [])) fun G1=>
    .useG 0x400 none (sJoinGen w a d N0 (N0+4) (N0+5) G1 (t0+5) (t0+6) (t0+7) 332 (Str.ofString "_Accumulator.__str__.<locals>.<genexpr>") C ep (Value.ref (N0+3)) (fnEnv w 181 f [])) [3,2,14,17] [] [] (sJoinGen_valid rfl hC hn) (inJ I_) (gOne rfl) fun x1 N1 t1 _ _=>
    endQ D_ 0x4 (x1,N0+3) [0,3,6,9] [] [] fun s' O=>⟨(x1,N0+3),trivial,rfl,rfl,O⟩
  kernel_rfl
 | some cd=>
  revert w
  refine vTree (fun w=>PySem.W.ZFast.zw5756087965420903480 (fnEnv w 181 f [])) [] roNil (fun w A r=>le_code rfl (hle w A r)) ?_ ?_
  ·exact fun w s N0 t0 G_ D_ I_=>
    .gen 0x502c0b0000003c000000800000024000000000009000000000901800 (code181 N0 (N0+1) (Value.ref cd) (fnEnv w 181 f [])) fun G1=>
    .useG 0x400 none (sJoinGen w a d N0 (N0+1) (N0+2) G1 t0 (t0+1) (t0+2) 332 (Str.ofString "_Accumulator.__str__.<locals>.<genexpr>") C ep (Value.ref cd) (fnEnv w 181 f [])) [3,2,5,8] [] [] (sJoinGen_valid rfl hC hn) (inJ I_) (gOne rfl) fun x1 N1 t1 _ _=>
    endQ D_ 0x4 (x1,cd) [0,3,6,9] [] [] fun s' O=>⟨(x1,cd),trivial,rfl,rfl,O⟩
  kernel_rfl
def sCStr (w:World) (a d q tn:Nat) (C:LC) (ep:Nat) (tb0:ON):Summ where
 code:=.call (.ref 181) ⟨[.ref a],[]⟩
 need:=[(a,accO d (accXs C) ep),(d,accD w q tn),(176,tab 113 32 tb0)]
 imm:=accLed C
 Res:=Nat×Nat
 res:=fun x=>.ok (.ret (.str (st (accTx C)) x.1))
 upd:=fun x=>[accO d (accXs C) ep,accD w q tn,tab 113 32 (some x.2)]
 d:=25
 u:=60
theorem sCStr_valid (w:World) {a d q tn:Nat} {C:LC} {ep:Nat} {tb0:ON} (hC:accLen C<=100000) (hn:C.length<=100000):Vd w (sCStr w a d q tn C ep tb0):=
 by
 revert w
 refine vOne ?_ ?_
 ·exact fun w s N0 t0 G_ D_ I_=>
   .ui 0x1000080200000002 (sStrF w N0 a d q tn t0 C ep tb0) [2,0,3,6] [] (sStrF_valid _ hC hn) (inJ I_) tt fun x1 N1 t1=>
   endQ D_ 0x4 x1 [0,3,6] [] [] fun s' O=>⟨x1,trivial,rfl,rfl,O⟩
 kernel_rfl
def sStrN (w:World) (a d q tn:Nat) (C:LC) (ep:Nat) (tb0:ON):Summ where
 code:=.builtin "str.__new__" ⟨[.type "str",.ref a],[]⟩
 need:=[(a,accO d (accXs C) ep),(d,accD w q tn),(176,tab 113 32 tb0)]
 imm:=accLed C
 Res:=Nat×Nat
 res:=fun x=>.ok (.ret (.str (st (accTx C)) x.1))
 upd:=fun x=>[accO d (accXs C) ep,accD w q tn,tab 113 32 (some x.2)]
 d:=30
 u:=70
theorem sStrN_valid (w:World) {a d q tn:Nat} {C:LC} {ep:Nat} {tb0:ON} (hC:accLen C<=100000) (hn:C.length<=100000):Vd w (sStrN w a d q tn C ep tb0):=by
 have hle:∀(w:World) (A:Around),RoomOk A (sStrN w a d q tn C ep tb0)->Le (model pw w) (A.under (sStrN w a d q tn C ep tb0).code) (sStrN w a d q tn C ep tb0).code (PySem.W.ZFast.zw1412386122954831621 (.ref a)) (denote table (sStrN w a d q tn C ep tb0).code):=fun w A room=>by
  rw [←PySem.W.ZFast.ze1412386122954831621]
  refine le_code (c:=.builtin "str.__new__" ⟨[.type "str",.ref a],[]⟩) rfl ?_
  with_reducible refine strT_le a ?_
  have h1:A.units+70<cLine:=room.units
  rw [Around.under_plainId (by decide +kernel)]
  show A.units+1<cLine
  lia
 revert w
 refine vTree (fun w=>PySem.W.ZFast.zw1412386122954831621 (.ref a)) [] roNil (fun w A r=>by with_reducible exact hle w A r) ?_ ?_
 ·exact fun w s N0 t0 G_ D_ I_=>
   .ui 0x4000000000006 (sCStr w a d q tn C ep tb0) [0,3,6] [] (sCStr_valid _ hC hn) (inJ I_) tt fun x1 N1 t1=>
   endQ D_ 0x4 x1 [0,3,6] [] [] fun s' O=>⟨x1,trivial,rfl,rfl,O⟩
 kernel_rfl
section
variable (w:World) (a d q tn:Nat) (C:LC) (ep:Nat) (tb0:ON)
def sStrA:Summ where
 code:=.call (.type "str") ⟨[.ref a],[]⟩
 need:=[(a,accO d (accXs C) ep),(d,accD w q tn),(176,tab 113 32 tb0)]
 imm:=accLed C
 Res:=Nat×Nat
 res:=fun x=>.ok (.ret (.str (st (accTx C)) x.1))
 upd:=fun x=>[accO d (accXs C) ep,accD w q tn,tab 113 32 (some x.2)]
 d:=40
 u:=90
theorem sStrA_valid (hC:accLen C<=100000) (hn:C.length<=100000):Vd w (sStrA w a d q tn C ep tb0):=
 by
 revert w
 refine vRow ?_ ?_
 ·exact fun w s N0 t0 G_ D_ I_=>
   .ui 0x40000000 (sStrN w a d q tn C ep tb0) [0,3,6] [] (sStrN_valid _ hC hn) (inJ I_) tt fun x1 N1 t1=>
   endQ D_ 0x400000 x1 [0,3,6] [] [] fun s' O=>⟨x1,trivial,rfl,rfl,O⟩
 kernel_rfl
end
end Mine
lay_z Mine.lenT
namespace Mine
def sLenA (w:World) (a d q tn:Nat) (C:LC) (n:Nat) (ep:Nat) (tb0:ON):Summ where
 code:=.builtin "len" ⟨[.ref a],[]⟩
 need:=[(a,accO d (accXs C) ep),(d,accD w q tn),(169,tab 110 19 tb0)]
 imm:=accLed C
 Res:=Nat×Nat
 res:=fun x=>.ok (.ret (.int (Int.ofNat n) x.1))
 upd:=fun x=>[accO d (accXs C) ep,accD w q tn,tab 110 19 (some x.2)]
 d:=30
 u:=70
theorem Out.tok {s s':Shared} {mods:LN} {lv ln li:Led} {tk:Nat} (O:Out s s' mods lv ln li):Out s {s' with toks:=tk} mods lv ln li:=⟨O.keep,O.gv,O.nw,O.gi,O.nodup,O.size,O.os,O.bare⟩
theorem sLenA_valid (w:World) (a d q tn:Nat) (C:LC) (n:Nat) (ep:Nat) (tb0:ON) (hC:accLen C<=100000) (hn:accLen C=n):Vd w (sLenA w a d q tn C n ep tb0):=by
 subst hn
 have H:OwnS w (sLenA w a d q tn C (accLen C) ep tb0) (PySem.W.ZFast.zw1943324962781214904 (.ref a)):=by
  revert w
  refine vRowT (fun w=>PySem.W.ZFast.zw1943324962781214904 (.ref a)) [] roNil ?_ ?_
  ·exact fun w s N0 t0 G_ D_ I_=>
    .ui 0x4000000000006 (sCLen w a d q tn C ep tb0) [0,3,6] [] (sCLen_valid _ hC) (inJ I_) tt fun x1 N1 t1=>
    endQ D_ 0x4 x1 [0,3,6] [] [] fun s' O=>⟨x1,trivial,rfl,rfl,O⟩
  kernel_rfl
 intro A s room base need imm nodup msk gn
 replace H:=H A s room base need imm nodup msk gn
 refine y_code _ _ _ _ _ _ ?_
 show wpOwn _ A (.builtin "len" ⟨[.ref a],[]⟩) (denote table (.builtin "len" ⟨[.ref a],[]⟩)) _ _ s
 rw [den_b entry_len]
 intro Γ p hc hΓ
 have h:=H Γ p hc hΓ
 rw [←PySem.W.ZFast.ze1943324962781214904] at h
 unfold lenT at h
 rw [Sem.wp_bind'] at h
 show Sem.wp _ Γ (callSpecial? (.ref a) "__len__">>=_) _ _ p s
 rw [Sem.wp_bind']
 refine Sem.wp_mono _ Γ _ (fun r p' s' h'=>?_) (fun e p' s' h'=>h') p s h
 cases r with
 | none=>exact absurd h' (by show ¬Sem.wp _ Γ (Sem.unsupported _) _ _ p' s';rw [Sem.wp];exact id)
 | some v=>
  have h2:Post (sLenA w a d q tn C (accLen C) ep tb0) s (.ok (.ret v)) s':=by
   have h3:Sem.wp _ Γ (Sem.pure (Fin.done (.ret v))) _ _ p' s':=h'
   rw [Sem.wp] at h3
   exact h3
  obtain ⟨x,-,hr,hl,O⟩:=h2
  have hv:v=.int (Int.ofNat (accLen C)) x.1:=by
   have hr:(Except.ok (Flow.ret v):Result)=.ok (.ret (.int (Int.ofNat (accLen C)) x.1)):=hr
   injection hr with hr;injection hr
  subst hv
  have hneg:¬(Int.ofNat (accLen C)<0):=by simp
  have hbig:¬(Int.ofNat (accLen C)>=2^63):=by simp;lia
  have W:wpAny (model pw w) (A.under (.builtin "len" ⟨[.ref a],[]⟩)) (do
    let n ←holding [.int (Int.ofNat (accLen C)) x.1] (asIndex (.int (Int.ofNat (accLen C)) x.1))
    letGo [.int (Int.ofNat (accLen C)) x.1]
    if n<0 then rule "len.negative";raiseError "ValueError" "__len__() should return >= 0"
    if n>=2^63 then
     rule "len.overflow";raiseError "OverflowError" "cannot fit 'int' into an index-sized integer"
    retInt n) (postC pw w A (Post (sLenA w a d q tn C (accLen C) ep tb0) s)) (postE (Post (sLenA w a d q tn C (accLen C) ep tb0) s)) s':=by
   wp_walk
   rw [if_neg hbig]
   wp_walk
   exact ⟨(_,x.2),trivial,rfl,rfl,O.tok⟩
  exact W Γ p' (hc▸hΓ.in)
def sPush (w:World) (a d q tn:Nat) (xs:LV) (ep:Nat) (f:LN) (tf:Nat) (p:LN) (tp:Nat):Summ where
 code:=.call (.ref 151) ⟨[.ref a,.str (st f) tf,.str (st p) tp],[]⟩
 need:=[(a,accO d xs ep),(d,accD w q tn)]
 Res:=Nat×Nat
 res:=fun x=>.ok (.ret .none)
 upd:=fun x=>[accO d (xs++[.ref x.1]) x.2,accD w q tn]
 new:=fun x=>[]
 giveImm:=fun x=>[(x.1,tup [.str (st f) tf,.str (st p) tp])]
 giv:=true
 d:=25
 u:=50
theorem sPush_valid (w:World) {a d q tn:Nat} {xs:LV} {ep:Nat} {f:LN} {tf:Nat} {p:LN} {tp:Nat} (h:xs.length<=100000):Vd w (sPush w a d q tn xs ep f tf p tp):=
 by
 revert w
 refine vRow ?_ ?_
 ·exact fun w s N0 t0 G_ D_ I_=>
   psAppend 0x400018000200802406000000000600000000060000000006020000000802008020080200000002 (Value.ref 207) (some d) a xs ep (Value.ref (N0+1)) h [0] [5] fun x1 N1 t1=>
   endQ D_ 0x4 (N0+1,x1) [0,3] [] [1] fun s' O=>⟨(N0+1,x1),trivial,rfl,rfl,O⟩
 kernel_rfl
def sPopFrom (w:World) (a d q tn:Nat) (xs:LV) (ep:Nat) (i ti:Nat):Summ where
 code:=.call (.ref 159) ⟨[.ref a,.int (Int.ofNat i) ti],[]⟩
 need:=[(a,accO d xs ep),(d,accD w q tn)]
 Res:=Nat×Nat
 res:=fun x=>.ok (.ret (.ref x.1))
 upd:=fun x=>[accO d (xs.take i) x.2,accD w q tn]
 new:=fun x=>[(x.1,lst (xs.drop i) 0)]
 giveImm:=fun x=>[]
 d:=25
 u:=50
theorem sPopFrom_valid (w:World) {a d q tn:Nat} {xs:LV} {ep:Nat} {i ti:Nat} (hi:i<=xs.length) (h:xs.length<=100000):Vd w (sPopFrom w a d q tn xs ep i ti):=
 by
 revert w
 refine vRow ?_ ?_
 ·exact fun w s N0 t0 G_ D_ I_=>
   .u 0x400018000000000006000060000000006020080000002008020080000000002 (sGetSlice (Value.ref 207) (some d) a xs ep (N0+1) i ti) [0,5] [2] (sGetSlice_valid hi h) tt fun x1 N1 t1=>
   .u 0x4000180000000000060000601c0701c07 (sSetSlice (Value.ref 207) (some d) a xs ep (N1+1) N1 (some (i,ti)) [] 0 (List.take i xs)) [0,5,2] [1,4] (sSetSlice_valid hi (by simpa using h) (by simp [loN])) tt fun x2 N2 t2=>
   endQ D_ 0x1007 (x1,x2) [0,3] [4] [] fun s' O=>⟨(x1,x2),trivial,rfl,rfl,O⟩
 kernel_rfl
def sReset0 (w:World) (a d q tn:Nat) (xs:LV) (ep:Nat):Summ where
 code:=.call (.ref 189) ⟨[.ref a],[]⟩
 need:=[(a,accO d xs ep),(d,accD w q tn)]
 Res:=Nat×Nat
 res:=fun x=>.ok (.ret .none)
 upd:=fun x=>[accO d [] x.1,accD w q x.2]
 new:=fun x=>[]
 giveImm:=fun x=>[]
 d:=25
 u:=50
theorem sReset0_valid (w:World) {a d q tn:Nat} {xs:LV} {ep:Nat} (h:xs.length<=100000):Vd w (sReset0 w a d q tn xs ep):=
 by
 revert w
 refine vRow ?_ ?_
 ·exact fun w s N0 t0 G_ D_ I_=>
   .u 0x1000060000000000018000180802008020080000002008020080000000002 (sSetSlice (Value.ref 207) (some d) a xs ep (N0+2) (N0+1) none [] 0 []) [0,8,5] [2] (sSetSlice_valid (Nat.zero_le _) (by simpa using h) rfl) tt fun x1 N1 t1=>
   endQ D_ 0x402409024000180000000018000180000006000000000001807 (x1,t1) [0,3] [] [] fun s' O=>⟨(x1,t1),trivial,rfl,rfl,O⟩
 kernel_rfl
def sReset1 (w:World) (a d q tn:Nat) (xs:LV) (ep:Nat) (al:Nat) (ys:LV) (ep':Nat):Summ where
 code:=.call (.ref 189) ⟨[.ref a,.ref al],[]⟩
 need:=[(a,accO d xs ep),(d,accD w q tn),(al,lst ys ep')]
 Res:=Nat×Nat
 res:=fun x=>.ok (.ret .none)
 upd:=fun x=>[accO d ys x.1,accD w q x.2,lst ys ep']
 new:=fun x=>[]
 giveImm:=fun x=>[]
 d:=25
 u:=50
theorem sReset1_valid (w:World) {a d q tn:Nat} {xs:LV} {ep:Nat} {al:Nat} {ys:LV} {ep':Nat} (h:xs.length+ys.length<=100000):Vd w (sReset1 w a d q tn xs ep al ys ep'):=
 by
 revert w
 refine vRow ?_ ?_
 ·exact fun w s N0 t0 G_ D_ I_=>
   .u 0x10000600000000000180001808020080000002008020080000000002 (sSetSlice (Value.ref 207) (some d) a xs ep (N0+1) al none ys ep' ys) [0,5,6] [2] (sSetSlice_valid (Nat.zero_le _) h (by simp [loN])) tt fun x1 N1 t1=>
   endQ D_ 0x402409024000180000000018000180000006000000000001807 (x1,t1) [0,3,6] [] [] fun s' O=>⟨(x1,t1),trivial,rfl,rfl,O⟩
 kernel_rfl
section
variable {prog:Program} {w:World} {A:Around} {c:Code}
noncomputable def neT (a b:Value):Sem Value:=do
 match oneThing? .NotEq a b with
 | some _=>PySem.unsupported "no"
 | none=>
  let ta ←typeOf a
  let tb ←typeOf b
  match ta !=tb with
  | true=>PySem.unsupported "no"
  | false=>match ←tryCompare a "__ne__" b with
   | some v=>return v
   | none=>PySem.unsupported "no"
theorem neT_le {a b:Value} (hu:A.units<cLine):Le (model prog w) A c (neT a b) (compareOp .NotEq a b):=by
 show Le _ _ _ _ (richCompare .NotEq a b)
 unfold richCompare
 refine (show Le (model prog w) A c (neT a b) (PySem.holding [a,b] _) from fun Γ p s Q E hc hΓ hw=>?_)
 rw [Sem.wp_holding,Sem.wp_bind']
 refine Sem.wp_cRoomFor "comparison" _ (Nat.lt_of_le_of_lt hΓ.2.2.2.2 hu) ?_
 revert Γ p s Q E
 show Le (model prog w) A c (neT a b) _
 unfold neT
 cases ho:oneThing? .NotEq a b with
 | some _=>exact Le.unsupported _
 | none=>
  refine Le.bind (Le.refl _) fun ta=>Le.bind (Le.refl _) fun tb=>?_
  cases ht:ta !=tb with
  | true=>exact Le.unsupported _
  | false=>
   simp only [Bool.false_eq_true,if_false,pure_bind]
   refine Le.bind (Le.refl _) fun r=>?_
   cases r with
   | none=>exact Le.unsupported _
   | some v=>exact Le.refl _
end
theorem Le.operate {M:Model} {A:Around} {c:Code} {vs:LV} {t t':Sem Value} (h:Le M A c t t'):Le M A c (PySem.operate vs t) (PySem.operate vs t'):=fun Γ p s Q E hc hΓ hw=>by
 rw [Sem.wp_operate] at hw ⊢
 exact h Γ p s Q E hc hΓ hw
def ifNeT (l r:Expr) (cp:Pos) (body:List Stmt) (pos:Pos) (env:Env):Sem Flow:=do
 standAt pos
 let b ←(do
  let a ←eval l env
  let b ←PySem.holding [a] (markedBehindIn .NotEq r (eval r env))
  standAt cp
  let c ←PySem.operate [a,b] (neT a b)
  PySem.holding [c] (truthy c))
 if b then execs body env else execs [] env
theorem ifNeT_le {prog:Program} {w:World} {A:Around} {c:Code} {l r:Expr} {cp pos:Pos} {body:List Stmt} {env:Env} (hu:A.units<cLine):Le (model prog w) A c (ifNeT l r cp body pos env) (exec (.If (.Compare l [.NotEq] [r] cp) body [] pos) env):=by
 rw [exec_If,isTrue_Compare1]
 exact Le.bind (Le.refl _) fun _=>Le.bind (Le.bind (Le.refl _) fun a=>Le.bind (Le.refl _) fun b=>Le.bind (Le.refl _) fun _=>Le.bind (Le.operate (neT_le hu)) fun _=>Le.refl _) fun _=>Le.refl _
def l85:Expr:=nmE "end_of_line" 37 11 37 22
noncomputable def r85:Expr:=.Tuple [.Constant (.str ⟨#[32]⟩) 0 ⟨37,27,37,30⟩,.Constant (.str ⟨#[]⟩) 0 ⟨37,32,37,34⟩] 0 ⟨37,26,37,35⟩
theorem body85 (w:World):fnBody w 85=nthS (fnBody w 85) 0::.If (.Compare l85 [.NotEq] [r85] ⟨37,11,37,35⟩) (partS (nthS (fnBody w 85) 1) 0) [] ⟨37,8,38,49⟩::(fnBody w 85).drop 2:=by kernel_rfl
def t85 (b:List Stmt) (env:Env):Sem Fin:=funcT (seqT (exec (nthS b 0) env) (seqT (ifNeT l85 r85 ⟨37,11,37,35⟩ (partS (nthS b 1) 0) ⟨37,8,38,49⟩ env) (execs (b.drop 2) env))) env
theorem t85_le {prog:Program} {w:World} {A:Around} {c:Code} {env:Env} (hu:A.units<cLine):Le (model prog w) A c (t85 (fnBody w 85) env) (denote table (.func (fnBody w 85) env)):=by
 rw [funcT_eq]
 refine funcT_le ?_
 have h:Le (model prog w) A c (seqT (exec (nthS (fnBody w 85) 0) env) (seqT (ifNeT l85 r85 ⟨37,11,37,35⟩ (partS (nthS (fnBody w 85) 1) 0) ⟨37,8,38,49⟩ env) (execs ((fnBody w 85).drop 2) env)))
  (execs (nthS (fnBody w 85) 0::.If (.Compare l85 [.NotEq] [r85] ⟨37,11,37,35⟩) (partS (nthS (fnBody w 85) 1) 0) [] ⟨37,8,38,49⟩::(fnBody w 85).drop 2) env):=
  seqT_le (Le.refl _) (seqT_le (ifNeT_le hu) (Le.refl _))
 rw [←body85 w] at h
 exact h
def tup2 (f:LN) (tf:Nat) (p:LN) (tp:Nat):Obj:=tup [.str (st f) tf,.str (st p) tp]
def sTupNe (va vb:Nat) (f:LN) (tf:Nat) (p:LN) (tp:Nat) (g:LN) (tg:Nat) (h:LN) (th:Nat):Summ where
 code:=.builtin "tuple.__ne__" ⟨[.ref va,.ref vb],[]⟩
 need:=[(vb,tup2 g tg h th)]
 imm:=[(va,tup2 f tf p tp)]
 Res:=Unit
 res:=fun _=>.ok (.ret (.bool true))
 upd:=fun _=>[tup2 g tg h th]
 d:=5
 u:=10
theorem sTupNe_valid {w:World} {va vb:Nat} {f:LN} {tf:Nat} {p:LN} {tp:Nat} {g:LN} {tg:Nat} {h:LN} {th:Nat} (hne:¬(f=g/\p=h)):Vd w (sTupNe va vb f tf p tp g tg h th):=
 valid_b rfl PySem.F.slot_tuple_ne.plain PySem.F.entry_tuple_ne fun A s room base need imm=>by
  have hb:s.heap.get? vb=some ⟨.type "tuple",none,.seq #[.str (st g) tg,.str (st h) th] 0,#[]⟩:=need _ (.head _)
  have ha:s.heap.get? va=some ⟨.type "tuple",none,.seq #[.str (st f) tf,.str (st p) tp] 0,#[]⟩:=imm _ (.head _)
  have hTb:s.TypeIs (.ref vb) "tuple":=⟨_,hb,rfl⟩
  show wpAny _ A.in1 (Builtin.«tuple.__ne__» ⟨[.ref va,.ref vb],[]⟩) _ _ s
  have e1:∀x y:LN,(st x==st y)=decide (x=y):=fun x y=>by
   by_cases h:x=y
   ·subst h;simp
   ·have:st x≠st y:=fun e=>h (by simpa [st] using e)
    simp [h,this]
  have fin:∃r,Fin.done (Flow.ret (Value.bool true))=Fin.done (Flow.ret r)/\Post (sTupNe va vb f tf p tp g tg h th) s (Except.ok (Flow.ret r)) s:=⟨_,rfl,(),trivial,rfl,rfl,out_same (need:=[(vb,tup2 g tg h th)]) rfl rfl rfl need⟩
  show wpAny _ _ (isInstance (.ref vb) (.type "tuple")>>=_) _ _ s
  refine wpAny_bind (wpAny_isInstance hTb isSubtype_tuple_tuple ?_)
  simp only [Bool.not_true,Bool.false_eq_true,if_false]
  refine wpAny_bind (wpAny_tupleItemsOf ha rfl ?_)
  refine wpAny_bind (wpAny_tupleItemsOf hb rfl ?_)
  simp only [List.zip_cons_cons,List.zip_nil_right,List.forIn_cons,List.forIn_nil]
  refine wpAny_bind (wpAny_bind (wpAny_bind (eqBool_str ?_)))
  rw [e1]
  by_cases hf:f=g
  ·rw [decide_eq_true hf]
   simp only [Bool.not_true,Bool.false_eq_true,if_false]
   refine wpAny_pure ?_
   refine wpAny_bind (wpAny_bind (eqBool_str ?_))
   rw [e1,decide_eq_false (fun hp=>hne ⟨hf,hp⟩)]
   simp only [Bool.not_false,if_true]
   wp_walk
   exact fin
  ·rw [decide_eq_false hf]
   simp only [Bool.not_false,if_true]
   wp_walk
   exact fin
end Mine
lay_z Mine.t85
namespace Mine
def sStrX (w:World) (a d q tn:Nat) (C:LC) (xs:LV) (tx:LN) (ep:Nat) (tb0:ON):Summ where
 code:=.call (.type "str") ⟨[.ref a],[]⟩
 need:=[(a,accO d xs ep),(d,accD w q tn),(176,tab 113 32 tb0)]
 imm:=accLed C
 Res:=Nat×Nat
 res:=fun x=>.ok (.ret (.str (st tx) x.1))
 upd:=fun x=>[accO d xs ep,accD w q tn,tab 113 32 (some x.2)]
 d:=40
 u:=90
theorem sStrX_valid {w:World} {a d q tn:Nat} {C:LC} {xs:LV} {tx:LN} {ep:Nat} {tb0:ON} (hx:xs=accXs C) (hC:accLen C<=100000) (hn:C.length<=100000) (ht:accTx C=tx):Vd w (sStrX w a d q tn C xs tx ep tb0):=by
 subst ht hx;exact sStrA_valid w a d q tn C ep tb0 hC hn
def sLenX (w:World) (a d q tn:Nat) (C:LC) (xs:LV) (n:Nat) (ep:Nat) (tb0:ON):Summ where
 code:=.builtin "len" ⟨[.ref a],[]⟩
 need:=[(a,accO d xs ep),(d,accD w q tn),(169,tab 110 19 tb0)]
 imm:=accLed C
 Res:=Nat×Nat
 res:=fun x=>.ok (.ret (.int (Int.ofNat n) x.1))
 upd:=fun x=>[accO d xs ep,accD w q tn,tab 110 19 (some x.2)]
 d:=30
 u:=70
theorem sLenX_valid {w:World} {a d q tn:Nat} {C:LC} {xs:LV} {n:Nat} {ep:Nat} {tb0:ON} (hx:xs=accXs C) (hC:accLen C<=100000) (hn:accLen C=n):Vd w (sLenX w a d q tn C xs n ep tb0):=by
 subst hx;exact sLenA_valid w a d q tn C n ep tb0 hC hn
def sOnlyWs (w:World) (a d q tn:Nat) (C:LC) (xs:LV) (n:Nat) (ep:Nat) (tb1 tb2:ON):Summ where
 code:=.call (.ref 196) ⟨[.ref a],[]⟩
 need:=[(a,accO d xs ep),(d,accD w q tn),(169,tab 110 19 tb1),(176,tab 113 32 tb2)]
 imm:=accLed C
 Res:=Nat×Nat
 res:=fun x=>.ok (.ret (.bool false))
 upd:=fun x=>[accO d xs ep,accD w q tn,tab 110 19 (some x.1),tab 113 32 (some x.2)]
 d:=50
 u:=110
theorem sOnlyWs_valid (w:World) {a d q tn:Nat} {C:LC} {xs:LV} {n:Nat} {ep:Nat} {tb1 tb2:ON} (hx:xs=accXs C) (hC:accLen C<=100000) (hl:C.length<=100000) (hn:accLen C=n+1) (hs:((st (accTx C)).length>0&&(st (accTx C)).cps.all Unicode.isSpace)=false):Vd w (sOnlyWs w a d q tn C xs n ep tb1 tb2):=
 by
 revert w
 refine vRow ?_ ?_
 ·exact fun w s N0 t0 G_ D_ I_=>
   .ui 0x100000000060000000006020000000900006018000000001800000060000000000000000000602000000080200000002 (sLenX w a d q tn C xs (n+1) ep tb1) [0,3,6] [2] (sLenX_valid hx hC hn) (inJ I_) tt fun x1 N1 t1=>
   .ui 0x40700000 (sStrX w a d q tn C xs (accTx C) ep tb2) [0,3,9] [] (sStrX_valid hx hC hl rfl) (inJ I_) tt fun x2 N2 t2=>
   .u 0x400 (sV "str.isspace" [Value.str (st (accTx C)) x2.fst] (Value.bool false)) [] [] (sV_valid PySem.F.slot_str_isspace.plain PySem.F.entry_str_isspace (gives_str_isspace _ _) (by rw [hs])) tt fun x3 N3 t3=>
   endQ D_ 0x4 (x1.2,x2.2) [0,3,6,9] [] [] fun s' O=>⟨(x1.2,x2.2),trivial,rfl,rfl,O⟩
 kernel_rfl
structure FmtR where
 fx:Nat
 fd:Nat
 L:Nat
 a:Nat
 d:Nat
 q:Nat->Nat
 wd:Int
 sg:Nat
def fmtD (w:World) (R:FmtR):Obj:=dictO w [("_maxlen",R.q 0,.int R.wd (R.q 9)),("_continuation_ws",R.q 1,.str (st [32]) (R.q 2)),("_continuation_ws_len",R.q 3,.int 1 (R.q 4)),("_splitchars",R.q 5,.str (st [R.sg]) (R.q 6)),("_lines",R.q 7,.ref R.L),("_current_line",R.q 8,.ref R.a)] 6
def lineVs (ls:List (LN×Nat)):LV:=ls.map fun l=>.str (st l.1) l.2
def fmtLed (w:World) (R:FmtR) (xs:LV) (ep:Nat) (tn:Nat) (ls:LV) (el:Nat) (tb1 tb2:ON):Led:=
 [(R.fx,inst 123 R.fd),(R.fd,fmtD w R),(R.a,accO R.d xs ep),(R.d,accD w (R.q 10) tn),(R.L,lst ls el),(169,tab 110 19 tb1),(176,tab 113 32 tb2)]
def sIaddTup (l va:Nat) (f:LN) (tf:Nat) (p:LN) (tp:Nat):Summ where
 code:=.builtin "list.__iadd__" ⟨[.ref l,.ref va],[]⟩
 need:=[(l,lst [] 0)]
 imm:=[(va,tup2 f tf p tp)]
 Res:=Nat
 res:=fun _=>.ok (.ret (.ref l))
 upd:=fun x=>[lst [.str (st f) tf,.str (st p) tp] x]
 d:=5
 u:=10
theorem sIaddTup_valid {w:World} {l va:Nat} {f:LN} {tf:Nat} {p:LN} {tp:Nat}:Vd w (sIaddTup l va f tf p tp):=fun A s room base need imm nodup msk gn=>by
 have hl:s.heap.get? l=some ⟨.type "list",none,.seq #[] 0,#[]⟩:=need _ (.head _)
 have ha:s.heap.get? va=some ⟨.type "tuple",none,.seq #[.str (st f) tf,.str (st p) tp] 0,#[]⟩:=(imm _ (.head _)).1
 have hne:¬l=va:=fun e=>(imm _ (.head _)).2 (by rw [show ((va,tup2 f tf p tp).1)=l from e.symm];exact .head _)
 have hT:s.TypeIs (.ref va) "tuple":=⟨_,ha,rfl⟩
 show codeAny (model pw w) A (.builtin "list.__iadd__" ⟨[.ref l,.ref va],[]⟩) _ s
 refine codeB PySem.F.slot_list_iadd.plain PySem.F.entry_list_iadd ?_
 show wpAny _ A.in1 (Builtin.List.listExtendWith (.ref l) (.ref va) (.ref l)) _ _ s
 unfold Builtin.List.listExtendWith
 refine wpAny_bind (wpAny_typeOf hT ?_)
 have hs:Builtin.List.listSameRef (.ref l) (.ref va)=false:=by simp [Builtin.List.listSameRef,hne]
 have hp:∀n,(Data.seq (#[]++ #[Value.str (st f) tf,Value.str (st p) tp]) n).pastItsLine=none:=fun n=>past_seq (by rw [sizeLine_eq];simp)
 rw [if_pos (by rw [hs];decide)]
 refine wpAny_bind (m:=Builtin.List.listItems (.ref va)) (PySem.wpAny_listItems ha rfl ?_)
 refine wpAny_bind (m:=Builtin.List.listItems (.ref l)) (PySem.wpAny_listItems hl rfl ?_)
 wp_walk
 simp only [Obj.mapSeq,hp]
 wp_walk
 exact ⟨_,trivial,rfl,rfl,out_one' hl (by simp [Obj.mapSeq];rfl) rfl⟩
def sNewlineF (w:World) (f ts:Nat) (R:FmtR) (C:LC) (c:Chunk) (tx:LN) (ep tn:Nat) (ls:LV) (el:Nat) (tb1 tb2:ON):Summ where
 code:=.func (fnBody w 85) (fnEnv w 85 f [])
 need:=fmtLed w R (accXs C++[.ref c.at_]) ep tn ls el tb1 tb2++[(f,frameO w [("self",ts,.ref R.fx)] 1)]
 imm:=c.led::accLed C
 Res:=Nat×Nat×Nat×Nat×Nat×Nat
 res:=fun x=>.ok (.ret .none)
 upd:=fun x=>(fmtLed w R [] x.1 x.2.1 (ls++[.str (st tx) x.2.2.1]) x.2.2.2.1 (some x.2.2.2.2.1) (some x.2.2.2.2.2)).map (·.2)
 d:=70
 u:=140
 gone:=1
def ivs (l:List (Nat×Nat)):LV:=l.map fun p=>iv p.1 p.2
theorem ivs_len (l:List (Nat×Nat)):(ivs l).length=l.length:=List.length_map ..
theorem la {α:Type} {l:List α} {a:α} {n:Nat} (h:l.length+1<=n):(l++[a]).length<=n:=by rw [List.length_append];exact h
structure Num where
 at_:Nat
 ep:Nat
 fs:List (Nat×Nat)
def Num.led (n:Num):Nat×Obj:=(n.at_,seqL (.type "list") none (ivs n.fs) n.ep)
noncomputable def Num.val (n:Num):LN:=n.fs.map (·.1)
noncomputable def numVs (ns:List Num):LV:=ns.map fun n=>.ref n.at_
def numLed (ns:List Num):Led:=ns.map Num.led
section
variable {w:World} {A:Around} {E:Value->Shared->Prop} {s:Shared}
theorem wp_getInt {a:Nat} {c:Value} {d:ON} {xs:LV} {ep:Nat} {i:Int} {t:Nat} {v:Value} {k:Nat} {Q:PySem.Fin->Shared->Prop} (ho:s.heap.get? a=some ⟨c,d,.seq xs.toArray ep,#[]⟩) (hk:seqIndex? i xs.length=some k) (hv:xs[k]? =some v) (hf:Builtin.List.listFitsIndex i=true)
  (hQ:Q (.done (.ret v)) s):wpAny (model pw w) A (Builtin.«list.__getitem__» ⟨[.ref a,.int i t],[]⟩) Q E s:=by
 have hl:=PySem.F.slot_int_index.lookup
 have hf':¬(!Builtin.List.listFitsIndex i)=true:=by rw [hf];decide
 unfold Builtin.«list.__getitem__»
 wp_walk using wpAny_loadPart' ho
 cases i with
 | ofNat n=>
  have hk':xs.toArray[n]? =some v:=by
   have:k=n:=by
    unfold seqIndex? at hk
    have:¬(Int.ofNat n<0):=by simp
    simp only [this,if_false] at hk
    split at hk
    ·cases hk;rfl
    ·cases hk
   subst this;simpa using hv
  clear hf hf' hk
  wp_walk using wpAny_loadPart' ho
  simp only [hk']
  wp_walk
  exact hQ
 | negSucc n=>
  refine wpAny_bind (m:=Builtin.List.listItems (.ref a)) (PySem.wpAny_listItems ho rfl (wpAny_pure ?_))
  simp only [List.size_toArray,hk,Option.bind_some,List.getElem?_toArray,hv,Option.map_some]
  wp_walk
  exact hQ
end
def sGetIntI (a:Nat) (xs:LV) (ep:Nat) (i:Int) (t:Nat) (v:Value):Summ where
 code:=.builtin "list.__getitem__" ⟨[.ref a,.int i t],[]⟩
 imm:=[(a,seqL (.type "list") none xs ep)]
 Res:=Unit
 res:=fun _=>.ok (.ret v)
 d:=5
 u:=10
theorem sGetIntI_valid {w:World} {a:Nat} {xs:LV} {ep:Nat} {i:Int} {t:Nat} {v:Value} (k:Nat) (hk:seqIndex? i xs.length=some k) (hv:xs[k]? =some v) (hf:Builtin.List.listFitsIndex i=true):Vd w (sGetIntI a xs ep i t v):=
 valid_b rfl PySem.F.slot_list_getitem.plain PySem.F.entry_list_getitem fun A s room base need imm=>by
  have ho:s.heap.get? a=some ⟨.type "list",none,.seq xs.toArray ep,#[]⟩:=imm _ (.head _)
  exact wp_getInt ho hk hv hf ⟨_,rfl,(),trivial,rfl,rfl,out_nil rfl rfl rfl⟩
def sLenI (a:Nat) (xs:LV) (ep n:Nat):Summ where
 code:=.builtin "len" ⟨[.ref a],[]⟩
 imm:=[(a,seqL (.type "list") none xs ep)]
 Res:=Nat
 res:=fun x=>.ok (.ret (iv n x))
 d:=5
 u:=10
theorem sLenI_valid {w:World} {a:Nat} {xs:LV} {ep n:Nat} (hn:xs.length=n) (h:n<=100000):Vd w (sLenI a xs ep n):=
 valid_b rfl plain_len entry_len fun A s room base need imm=>by
  have ho:s.heap.get? a=some ⟨.type "list",none,.seq xs.toArray ep,#[]⟩:=imm _ (.head _)
  subst hn
  refine wpAny_len_body_list ⟨_,ho,rfl,ep,rfl⟩ (by simp;lia) ⟨s.toks+1,trivial,by simp [sLenI],rfl,out_nil rfl rfl rfl⟩
def sSetInt (a:Nat) (xs:LV) (ep:Nat) (i:Int) (t k:Nat) (v:Value):Summ where
 code:=.builtin "list.__setitem__" ⟨[.ref a,.int i t,v],[]⟩
 need:=[(a,lst xs ep)]
 Res:=Nat
 res:=fun _=>.ok (.ret .none)
 upd:=fun x=>[lst (xs.set k v) x]
 d:=5
 u:=10
def sSetLast (a:Nat) (xs:LV) (u:Value) (ep:Nat) (t:Nat) (v:Value):Summ where
 code:=.builtin "list.__setitem__" ⟨[.ref a,.int (-1) t,v],[]⟩
 need:=[(a,lst (xs++[u]) ep)]
 Res:=Nat
 res:=fun _=>.ok (.ret .none)
 upd:=fun x=>[lst (xs++[v]) x]
 d:=5
 u:=10
theorem fits_m1:Builtin.List.listFitsIndex (-1)=true:=by
 unfold Builtin.List.listFitsIndex;simp
theorem sSetInt_valid {w:World} {a:Nat} {xs:LV} {ep:Nat} {i:Int} {t k:Nat} {v:Value} (hk:i=Int.ofNat k) (hf:Builtin.List.listFitsIndex i=true) (hi:k<xs.length) (h:xs.length<=100000):Vd w (sSetInt a xs ep i t k v):=
 valid_b rfl PySem.F.slot_list_setitem.plain PySem.F.entry_list_setitem fun A s room base need imm=>by
  have ho:s.heap.get? a=some ⟨.type "list",none,.seq xs.toArray ep,#[]⟩:=need _ (.head _)
  show wpAny _ A.in1 (Builtin.«list.__setitem__» ⟨[.ref a,.int i t,v],[]⟩) _ _ s
  show wpAny _ _ (Builtin.List.listSubscript? (.int i t)>>=_) _ _ s
  refine wpAny_bind (wpAny_listSubscript_int hf ?_)
  clear hf
  obtain ⟨j,rfl⟩:=Int.eq_ofNat_of_zero_le (show 0<=i by rw [hk];simp)
  have hj:k=j:=by have:(j:Int)=((k:Nat):Int):=hk;lia
  clear hk
  subst hj
  have hx':xs.toArray[k]? =some xs[k]:=by simp [hi]
  show wpAny _ _ ((seqItemAt a k>>=fun r=>pure (r.map (k,·)))>>=_) _ _ s
  refine wpAny_bind (wpAny_bind (wpAny_seqItemAt ho rfl (wpAny_pure ?_)))
  rw [hx']
  show wpAny _ _ (setSeqItemAt a k v>>=_) _ _ s
  refine wpAny_bind (wpAny_setSeqItemAt ho rfl ?_)
  have e:∃n,(Obj.mapSeq (·.setIfInBounds k v) ⟨.type "list",none,.seq xs.toArray ep,#[]⟩)=lst (xs.set k v) n:=⟨_,by simp [Obj.mapSeq,lst];rfl⟩
  obtain ⟨n,e⟩:=e
  have fin:Out s {s with heap:=s.heap.update a (Obj.mapSeq (·.setIfInBounds k v))} ([(a,lst xs ep)].map (·.1)) (rezip [(a,lst xs ep)] [lst (xs.set k v) n]) [] []:=out_one' (tk:=s.toks) ho e rfl
  first
   | exact wpAny_bind (wpAny_pure (wpAny_pure ⟨_,rfl,n,trivial,rfl,rfl,fin⟩))
   | exact wpAny_pure ⟨_,rfl,n,trivial,rfl,rfl,fin⟩
theorem sSetLast_valid {w:World} {a:Nat} {xs:LV} {u:Value} {ep:Nat} {t:Nat} {v:Value} (h:xs.length<=100000):Vd w (sSetLast a xs u ep t v):=
 valid_b rfl PySem.F.slot_list_setitem.plain PySem.F.entry_list_setitem fun A s room base need imm=>by
  have ho:s.heap.get? a=some ⟨.type "list",none,.seq (xs++[u]).toArray ep,#[]⟩:=need _ (.head _)
  show wpAny _ A.in1 (Builtin.«list.__setitem__» ⟨[.ref a,.int (-1) t,v],[]⟩) _ _ s
  have hfit:=fits_m1
  generalize hk:(-1:Int)=k at hfit ⊢
  show wpAny _ _ (Builtin.List.listSubscript? (.int k t)>>=_) _ _ s
  refine wpAny_bind (wpAny_listSubscript_int hfit ?_)
  obtain ⟨j,hj,rfl⟩:∃j:Nat,j=0/\k=Int.negSucc j:=⟨0,rfl,hk.symm⟩
  clear hk
  have hidx:seqIndex? (Int.negSucc j) (xs++[u]).toArray.size=some xs.length:=by subst hj;rw [List.size_toArray,List.length_append];exact seq_m
  have hx':(xs++[u]).toArray[xs.length]? =some u:=by simp
  show wpAny _ _ ((Builtin.List.listItems (.ref a)>>=fun ys=>pure ((seqIndex? (Int.negSucc j) ys.size).bind fun i=>ys[i]?.map (i,·)))>>=_) _ _ s
  refine wpAny_bind (wpAny_bind ?_)
  show wpAny _ _ (seqItems? (.ref a)>>=_) _ _ s
  refine wpAny_bind (wpAny_seqItems ho rfl (wpAny_pure (wpAny_pure ?_)))
  rw [hidx]
  simp only [Option.bind_some,hx',Option.map_some]
  show wpAny _ _ (setSeqItemAt a xs.length v>>=_) _ _ s
  refine wpAny_bind (wpAny_setSeqItemAt ho rfl ?_)
  have e:∃n,(Obj.mapSeq (·.setIfInBounds xs.length v) ⟨.type "list",none,.seq (xs++[u]).toArray ep,#[]⟩)=lst (xs++[v]) n:=⟨_,by simp [Obj.mapSeq,lst];rfl⟩
  obtain ⟨n,e⟩:=e
  have fin:Out s {s with heap:=s.heap.update a (Obj.mapSeq (·.setIfInBounds xs.length v))} ([(a,lst (xs++[u]) ep)].map (·.1)) (rezip [(a,lst (xs++[u]) ep)] [lst (xs++[v]) n]) [] []:=out_one' (tk:=s.toks) ho e rfl
  first
   | exact wpAny_bind (wpAny_pure (wpAny_pure ⟨_,rfl,n,trivial,rfl,rfl,fin⟩))
   | exact wpAny_pure ⟨_,rfl,n,trivial,rfl,rfl,fin⟩
def psSetLast {w:World} {G:OblG} {gl:List (Nat×Code)} {bag:Led} (H_:Nat) (a:Nat) (xs:LV) (u:Value) (ep:Nat) (t:Nat) (v:Value) (h:xs.length<=100000) (at_:LN) (keep_:LN) (next:∀(_:(sSetLast a xs u ep t v).Res) (_ _:Nat),Pf mask pw w G [] bag):Pf mask pw w G gl bag:=.u H_ (sSetLast a xs u ep t v) at_ keep_ (sSetLast_valid h) tt next
def sGetHead (a:Nat) (xs:LV) (ep:Nat) (sl:Nat) (hi:Int) (t:Nat) (ys:LV):Summ where
 code:=.builtin "list.__getitem__" ⟨[.ref a,.ref sl],[]⟩
 need:=[(sl,sliceO .none (.int hi t) .none)]
 imm:=[(a,seqL (.type "list") none xs ep)]
 Res:=Nat
 res:=fun x=>.ok (.ret (.ref x))
 upd:=fun _=>[sliceO .none (.int hi t) .none]
 new:=fun x=>[(x,lst ys 0)]
 d:=5
 u:=10
theorem fm_congr {α β:Type} {f g:α->Option β}:∀{l:List α},(∀x∈l,f x=g x)->l.filterMap f=l.filterMap g
 | [],_=>rfl
 | x::l,h=>by
  rw [List.filterMap_cons,List.filterMap_cons,h x (.head _),fm_congr fun y hy=>h y (.tail _ hy)]
theorem slice_take (xs:LV) (i:Nat) (h:i<=xs.length):((sliceRange 0 i 1).filterMap (xs.toArray[·]?))=xs.take i:=by
 unfold sliceRange
 simp only [show (1:Int)>0 from by decide,if_true]
 have:(if (0:Int)<(i:Int) then ((i:Int)-0+1-1)/1 else 0).toNat=i:=by
  split <;>lia
 rw [this]
 have e:∀k:Nat,((0:Int)+1*(k:Int)).toNat=k:=fun k=>by lia
 simp only [e,List.filterMap_map]
 have g:∀(n:Nat) (l:LV),l.length=n->(List.range n).filterMap (fun k=>l[k]?)=l:=by
  intro n
  induction n with
  | zero=>intro l hl;cases l with | nil=>rfl | cons=>cases hl
  | succ n ih=>
   intro l hl
   cases l with
   | nil=>cases hl
   | cons a l=>
    rw [List.range_succ_eq_map,List.filterMap_cons]
    simp only [List.getElem?_cons_zero,List.filterMap_map]
    congr 1
    have:=ih l (by simpa using hl)
    simpa [Function.comp_def] using this
 have:=g i (xs.take i) (by simp [h])
 rw [←this]
 refine fm_congr fun k hk=>?_
 have hk:k<i:=by simpa using hk
 simp [List.getElem?_take,hk]
theorem sGetHead_valid {w:World} (a:Nat) (xs:LV) (ep:Nat) {sl:Nat} {hi:Int} {t:Nat} (i:Nat) (hb:sliceBounds none (some hi) none xs.length=(0,(i:Int),1)) (hi2:i<=xs.length) (h:xs.length<=100000):Vd w (sGetHead a xs ep sl hi t (xs.take i)):=
 valid_b rfl PySem.F.slot_list_getitem.plain PySem.F.entry_list_getitem fun A s room base need imm=>by
  have ho:s.heap.get? a=some ⟨.type "list",none,.seq xs.toArray ep,#[]⟩:=imm _ (.head _)
  have hs:s.heap.get? sl=some (sliceO .none (.int hi t) .none):=need _ (.head _)
  have hTs:=typeIs_slice hs
  show wpAny _ A.in1 (Builtin.«list.__getitem__» ⟨[.ref a,.ref sl],[]⟩) _ _ s
  show wpAny _ _ (Builtin.List.listSubscript? (.ref sl)>>=_) _ _ s
  refine wpAny_bind ?_
  unfold Builtin.List.listSubscript?
  refine wpAny_bind (wpAny_specialOf hTs slice_no_index ?_)
  simp only [Option.isNone_none,if_true]
  refine wpAny_pure ?_
  show wpAny _ _ (typeOf (.ref sl)>>=_) _ _ s
  refine wpAny_bind (wpAny_typeOf hTs ?_)
  rw [if_neg (by decide)]
  rw [listSliceParts_eq]
  refine wpAny_bind (wpAny_bind (wpAny_field hs rfl (x:=.none) rfl (wpAny_bind (wpAny_listPart .none ?_))))
  rw [if_neg (show ¬((rawPart none==rawInt 0)=true) from Bool.false_ne_true)]
  refine wpAny_bind (wpAny_field hs rfl (x:=.none) rfl (wpAny_bind (wpAny_listPart .none ?_)))
  refine wpAny_bind (wpAny_field hs rfl (x:=.int hi t) rfl (wpAny_bind (wpAny_listPart (.int _ _) (wpAny_pure ?_))))
  refine wpAny_bind (m:=Builtin.List.listItems (.ref a)) ?_
  unfold Builtin.List.listItems
  refine wpAny_bind (wpAny_seqItems ho rfl (wpAny_pure ?_))
  refine wpAny_bind (wpAny_of_eq (sliceIndices_raw none (some hi) none xs.toArray.size (by simp)) ?_)
  have e:slicePick xs.toArray none (some hi) none=(xs.take i).toArray:=by
   unfold slicePick
   have:xs.toArray.size=xs.length:=by simp
   rw [this,hb]
   show ((sliceRange 0 i 1).filterMap (xs.toArray[·]?)).toArray=_
   rw [slice_take xs i hi2]
  refine wpAny_bind (wpAny_newObj_type (wpAny_pure ⟨_,rfl,s.heap.objs.size,trivial,rfl,rfl,?_⟩) (Nat.le_trans (slicePick_size_le xs.toArray _ _ _) (by rw [sizeLine_eq];simp;exact leT ‹_› rfl)))
  refine out_push (need:=[(sl,sliceO .none (.int hi t) .none)]) ?_ rfl rfl rfl need
  show s.heap.push _=s.heap.push _
  unfold slicePick at e
  rw [e];rfl
theorem bounds_init (n:Nat) (h:1<=n):sliceBounds none (some (-1)) none n=(0,((n-1:Nat):Int),1):=by
 unfold sliceBounds;simp;lia
theorem bounds_hi (n k:Nat):sliceBounds none (some (Int.ofNat k)) none n=(0,((min k n:Nat):Int),1):=by
 unfold sliceBounds;simp;lia
def sConcat (a:Nat) (xs:LV) (ep:Nat) (b:Nat) (ys:LV) (ep':Nat):Summ where
 code:=.builtin "list.__add__" ⟨[.ref a,.ref b],[]⟩
 need:=[(a,lst xs ep),(b,lst ys ep')]
 Res:=Nat
 res:=fun x=>.ok (.ret (.ref x))
 upd:=fun _=>[lst xs ep,lst ys ep']
 new:=fun x=>[(x,lst (xs++ys) 0)]
 d:=5
 u:=10
theorem sConcat_valid {w:World} {a:Nat} {xs:LV} {ep:Nat} {b:Nat} {ys:LV} {ep':Nat} (h:xs.length+ys.length<=100000):Vd w (sConcat a xs ep b ys ep'):=
 valid_b rfl PySem.F.slot_list_add.plain PySem.F.entry_list_add fun A s room base need imm=>by
  have ha:s.heap.get? a=some ⟨.type "list",none,.seq xs.toArray ep,#[]⟩:=need _ (.head _)
  have hb:s.heap.get? b=some ⟨.type "list",none,.seq ys.toArray ep',#[]⟩:=need _ (.tail _ (.head _))
  have hT:s.TypeIs (.ref b) "list":=⟨_,hb,rfl⟩
  show wpAny _ A.in1 (Builtin.«list.__add__» ⟨[.ref a,.ref b],[]⟩) _ _ s
  show wpAny _ _ (isInstance (.ref b) (.type "list")>>=_) _ _ s
  refine wpAny_bind (wpAny_isInstance hT AutoSeq1.sub_list_list ?_)
  simp only [Bool.not_true,Bool.false_eq_true,if_false]
  refine wpAny_bind (m:=Builtin.List.listItems (.ref a)) (PySem.wpAny_listItems ha rfl ?_)
  refine wpAny_bind (m:=Builtin.List.listItems (.ref b)) (PySem.wpAny_listItems hb rfl ?_)
  refine wpAny_bind (wpAny_newObj_type (wpAny_pure ⟨_,rfl,s.heap.objs.size,trivial,rfl,rfl,?_⟩) (by show (xs.toArray++ys.toArray).size<=sizeLine;rw [sizeLine_eq];simp;exact leT ‹_› rfl))
  refine out_push (need:=[(a,lst xs ep),(b,lst ys ep')]) ?_ rfl rfl rfl need
  show s.heap.push _=s.heap.push _
  simp [lst]
def sInI (a:Nat) (l:List (Nat×Nat)) (ep:Nat) (x t:Nat) (r:Bool):Summ where
 code:=.builtin "list.__contains__" ⟨[.ref a,iv x t],[]⟩
 imm:=[(a,seqL (.type "list") none (ivs l) ep)]
 Res:=Unit
 res:=fun _=>.ok (.ret (.bool r))
 d:=5
 u:=10
theorem int_beq (a b:Nat):(Int.ofNat a==Int.ofNat b)=(a==b):=by
 show decide ((a:Int)=(b:Int))=decide (a=b)
 simp only [Int.ofNat_inj]
noncomputable def eqI (x:Nat):Value->Bool
 | .int i _=>i==Int.ofNat x
 | _=>false
theorem sInI_valid {w:World} {a:Nat} {l:List (Nat×Nat)} {ep:Nat} {x t:Nat} {r:Bool} (hr:(l.any fun p=>p.1==x)=r):Vd w (sInI a l ep x t r):=by
 subst hr
 refine valid_m rfl PySem.F.slot_list_contains.plain PySem.F.entry_list_contains (PySem.MeetsSeq.list_contains a (ivs l).toArray ep (iv x t) (eqI x) (fun y hy=>by
  obtain ⟨p,hp,rfl⟩:∃p∈l,iv p.1 p.2=y:=by simpa [ivs] using hy
  exact PySem.MeetsSeq.EqGives.int _ _ _ _)) fun A s room base need imm=>⟨imm _ (.head _),(),trivial,?_,rfl,out_nil rfl rfl rfl⟩
 show (Except.ok (Flow.ret (Value.bool ((ivs l).toArray.any (eqI x)))):Result)=.ok (.ret (.bool (l.any fun p=>p.1==x)))
 have:(ivs l).toArray.any (eqI x)=l.any fun p=>p.1==x:=by
  simp only [List.any_toArray,ivs,List.any_map]
  congr 1
  funext p
  exact int_beq p.1 x
 rw [this]
def sInTup (a b ta c tc:Nat) (x t:Nat) (r:Bool):Summ where
 code:=.builtin "tuple.__contains__" ⟨[.ref a,iv x t],[]⟩
 need:=[(a,tup [iv b ta,iv c tc])]
 Res:=Unit
 res:=fun _=>.ok (.ret (.bool r))
 upd:=fun _=>[tup [iv b ta,iv c tc]]
 d:=5
 u:=10
theorem sInTup_valid {w:World} {a b ta c tc:Nat} {x t:Nat} {r:Bool} (hr:(b==x|| c==x)=r):Vd w (sInTup a b ta c tc x t r):=by
 subst hr
 refine valid_m rfl PySem.F.slot_tuple_contains.plain PySem.F.entry_tuple_contains (PySem.SeqAt.tuple_containsAt a #[iv b ta,iv c tc] 0 none #[] (iv x t) (eqI x)) fun A s room base need imm=>⟨need _ (.head _),fun y hy=>?_,(),trivial,?_,rfl,out_same (need:=[(a,tup [iv b ta,iv c tc])]) rfl rfl rfl need⟩
 ·have:y=iv b ta\/y=iv c tc:=by simpa using hy
  rcases this with rfl | rfl
  ·exact (PySem.MeetsSeq.EqGives.int _ _ _ _).at _ _
  ·exact (PySem.MeetsSeq.EqGives.int _ _ _ _).at _ _
 ·show (Except.ok (Flow.ret (Value.bool ((#[iv b ta,iv c tc]:Array Value).any (eqI x)))):Result)=.ok (.ret (.bool (b==x|| c==x)))
  have:(#[iv b ta,iv c tc]:Array Value).any (eqI x)=(b==x|| c==x):=by
   have h1:eqI x (iv b ta)=(b==x):=int_beq b x
   have h2:eqI x (iv c tc)=(c==x):=int_beq c x
   simp [h1,h2]
  rw [this]
theorem ne_loop {w:World} {A:Around} {s:Shared} {a b:Nat} {xs ys:LV} {ep ep':Nat} {R:Result->Shared->Prop} (ha:s.heap.get? a=some (lst xs ep)) (hb:s.heap.get? b=some (lst ys ep')) (hl:xs.length=ys.length)
  (he:∀j (h1:j<xs.length) (h2:j<ys.length),PySem.SeqAt.EqAt A.in1 s xs[j] ys[j] true) (hR:R (.ok (.ret (.bool false))) s):∀(k i:Nat),xs.length-i=k->
  wpAny (model pw w) A.in1 (Builtin.«list.__eq__.loop» ⟨[.ref a,.ref b,rawInt i,rawInt 3],[]⟩) (fun fin s'=>match fin with | .done f=>R (.ok f) s' | .again c'=>c'.quiet=true/\codeAny (model pw w) A c' R s') (fun e s'=>R (.error e) s') s:=by
 have ha':s.heap.get? a=some ⟨.type "list",none,.seq xs.toArray ep,#[]⟩:=ha
 have hb':s.heap.get? b=some ⟨.type "list",none,.seq ys.toArray ep',#[]⟩:=hb
 intro k
 induction k with
 | zero=>
  intro i hk
  obtain ⟨hp,g,d,tk,os⟩:=s
  wp_walk using wpAny_loadPart' ha',wpAny_loadPart' hb'
  have hi1:xs.toArray[((i:Nat):Int).toNat]? =none:=by simp;exact Nat.le_of_sub_eq_zero hk
  have hi2:ys.toArray[((i:Nat):Int).toNat]? =none:=by simp;rw [←hl];exact Nat.le_of_sub_eq_zero hk
  rw [hi1,hi2]
  wp_walk using wpAny_loadPart' ha',wpAny_loadPart' hb'
  show R (.ok (.ret (.bool (xs.toArray.size !=ys.toArray.size)))) _
  have:(xs.toArray.size !=ys.toArray.size)=false:=by simp [hl]
  rw [this]
  exact hR
 | succ k ih=>
  intro i hk
  obtain ⟨hp,g,d,tk,os⟩:=s
  wp_walk using wpAny_loadPart' ha',wpAny_loadPart' hb'
  have hlt:i<xs.length:=Nat.lt_of_sub_eq_succ hk
  have hlt2:i<ys.length:=by rw [←hl];exact hlt
  have hi1:xs.toArray[((i:Nat):Int).toNat]? =some xs[i]:=by simp [hlt]
  have hi2:ys.toArray[((i:Nat):Int).toNat]? =some ys[i]:=by simp [hlt2]
  have hc:((i:Int)+1)=((i+1:Nat):Int):=by push_cast;rfl
  rw [hi1,hi2]
  refine wpAny_bind (he i hlt hlt2 pw w _ _ ?_)
  wp_walk
  rw [hc]
  exact ⟨plainId_quiet PySem.MeetsSeq3.plain_eq_loop _,codeAny_builtin PySem.MeetsSeq3.entry_eq_loop (by
   rw [Around.under_plainId PySem.MeetsSeq3.plain_eq_loop _]
   exact ih (i+1) (by rw [Nat.sub_add_eq,hk];rfl))⟩
def sNeL (a b:Nat) (xs ys:LV) (ep ep':Nat) (im:Led):Summ where
 code:=.builtin "list.__ne__" ⟨[.ref a,.ref b],[]⟩
 need:=[(a,lst xs ep),(b,lst ys ep')]
 imm:=im
 Res:=Unit
 res:=fun _=>.ok (.ret (.bool false))
 upd:=fun _=>[lst xs ep,lst ys ep']
 d:=10
 u:=20
theorem sNeL_valid {w:World} (a b:Nat) {xs ys:LV} {ep ep':Nat} {im:Led} (hl:xs.length=ys.length)
  (he:∀(A:Around) (s:Shared),A.units<cLine->(∀p∈im,s.heap.get? p.1=some p.2)->∀j (h1:j<xs.length) (h2:j<ys.length),PySem.SeqAt.EqAt A s xs[j] ys[j] true):Vd w (sNeL a b xs ys ep ep' im):=fun A s room base need imm nodup msk gn=>by
 have ha:s.heap.get? a=some (lst xs ep):=need _ (.head _)
 have hb:s.heap.get? b=some (lst ys ep'):=need _ (.tail _ (.head _))
 have ha':s.heap.get? a=some ⟨.type "list",none,.seq xs.toArray ep,#[]⟩:=ha
 have hb':s.heap.get? b=some ⟨.type "list",none,.seq ys.toArray ep',#[]⟩:=hb
 have hu:A.in1.units<cLine:=by have:=room.units;show A.units+1<cLine;exact Nat.lt_of_le_of_lt (Nat.add_le_add_left (Nat.le_add_left 1 19) _) this
 have E:=he A.in1 s hu fun p hp=>(imm p hp).1
 show codeAny (model pw w) A (.builtin "list.__ne__" ⟨[.ref a,.ref b],[]⟩) _ s
 refine codeB PySem.F.slot_list_ne.plain PySem.F.entry_list_ne ?_
 have f3:=AutoSeq1.sub_list_list
 have hne:¬(xs.toArray.size !=ys.toArray.size)=true:=by simp [hl]
 have fin:Post (sNeL a b xs ys ep ep' im) s (.ok (.ret (.bool false))) s:=⟨(),trivial,rfl,rfl,out_same (need:=[(a,lst xs ep),(b,lst ys ep')]) rfl rfl rfl need⟩
 have L:=ne_loop (w:=w) (A:=A) ha hb hl E (R:=Post (sNeL a b xs ys ep ep' im) s) fin xs.length 0 rfl
 generalize hP:Post (sNeL a b xs ys ep ep' im) s=P at L
 have hgoal:(fun r s'=>∃x,(sNeL a b xs ys ep ep' im).post x/\r=(sNeL a b xs ys ep ep' im).res x/\((sNeL a b xs ys ep ep' im).upd x).length+(sNeL a b xs ys ep ep' im).gone=(sNeL a b xs ys ep ep' im).need.length/\Out s s' ((sNeL a b xs ys ep ep' im).need.map (·.1)) (rezip (sNeL a b xs ys ep ep' im).need ((sNeL a b xs ys ep ep' im).upd x)) ((sNeL a b xs ys ep ep' im).new x) ((sNeL a b xs ys ep ep' im).giveImm x))=P:=hP
 rw [hgoal]
 clear hgoal hP fin
 obtain ⟨hp,g,d,tk,os⟩:=s
 wp_walk using wpAny_loadPart' ha',wpAny_loadPart' hb'
 exact ⟨plainId_quiet PySem.MeetsSeq3.plain_eq_loop _,codeAny_builtin PySem.MeetsSeq3.entry_eq_loop (by
  rw [Around.under_plainId PySem.MeetsSeq3.plain_eq_loop _]
  exact L)⟩
theorem lineVs_get {l:List (LN×Nat)} {j:Nat} (h:j<(lineVs l).length):∃(h':j<l.length),(lineVs l)[j]=.str (st (l[j]).1) (l[j]).2:=by
 have h':j<l.length:=by simpa [lineVs] using h
 exact ⟨h',by simp [lineVs]⟩
theorem sNeStr_valid {w:World} (a b:Nat) (l l':List (LN×Nat)) (ep ep':Nat) (h:l.map (·.1)=l'.map (·.1)):Vd w (sNeL a b (lineVs l) (lineVs l') ep ep' []):=by
 have hlen:l.length=l'.length:=by have:=congrArg List.length h;simpa using this
 refine sNeL_valid a b (by simp [lineVs,hlen]) fun A s hu him j h1 h2=>?_
 obtain ⟨g1,e1⟩:=lineVs_get h1
 obtain ⟨g2,e2⟩:=lineVs_get h2
 rw [e1,e2]
 have e:(l[j]).1=(l'[j]).1:=by
  have:=congrArg (·[j]?) h
  simpa [List.getElem?_eq_getElem,g1,g2] using this
 rw [e]
 have z:=(eqGives_str (st (l'[j]).1) (st (l'[j]).1) (l[j]).2 (l'[j]).2).at A s
 simpa using z
theorem numVs_get {ns:List Num} {j:Nat} (h:j<(numVs ns).length):∃(h':j<ns.length),(numVs ns)[j]=.ref (ns[j]).at_:=by
 have h':j<ns.length:=by simpa [numVs] using h
 exact ⟨h',by simp [numVs]⟩
theorem ivs_eq {A:Around} {s:Shared}:∀{l l':List (Nat×Nat)},l.map (·.1)=l'.map (·.1)->∀j (h1:j<(ivs l).length) (h2:j<(ivs l').length),PySem.SeqAt.EqAt A s (ivs l)[j] (ivs l')[j] true:=fun {l l'} h j h1 h2=>by
 have g1:j<l.length:=by simpa [ivs] using h1
 have g2:j<l'.length:=by simpa [ivs] using h2
 have e1:(ivs l)[j]=iv (l[j]).1 (l[j]).2:=by simp [ivs]
 have e2:(ivs l')[j]=iv (l'[j]).1 (l'[j]).2:=by simp [ivs]
 rw [e1,e2]
 have e:(l[j]).1=(l'[j]).1:=by
  have:=congrArg (·[j]?) h
  simpa [List.getElem?_eq_getElem,g1,g2] using this
 rw [e]
 have z:=(PySem.MeetsSeq.EqGives.int (Int.ofNat (l'[j]).1) (Int.ofNat (l'[j]).1) (l[j]).2 (l'[j]).2).at A s
 rw [int_beq,beq_self_eq_true] at z
 exact z
theorem sNeNum_valid {w:World} (a b:Nat) (ns ms:List Num) (ep ep':Nat) (h:ns.map Num.val=ms.map Num.val):Vd w (sNeL a b (numVs ns) (numVs ms) ep ep' (numLed ns++numLed ms)):=by
 have hlen:ns.length=ms.length:=by have:=congrArg List.length h;simpa using this
 refine sNeL_valid a b (by simp [numVs,hlen]) fun A s hu him j h1 h2=>?_
 obtain ⟨g1,e1⟩:=numVs_get h1
 obtain ⟨g2,e2⟩:=numVs_get h2
 rw [e1,e2]
 have e:(ns[j]).val=(ms[j]).val:=by
  have:=congrArg (·[j]?) h
  simpa [List.getElem?_eq_getElem,g1,g2] using this
 by_cases hne:(ns[j]).at_=(ms[j]).at_
 ·rw [hne];exact PySem.SeqAt.EqAt.same _
 ·have m1:s.heap.get? (ns[j]).at_=some (ns[j]).led.2:=him (ns[j]).led (iL (List.mem_map_of_mem (List.getElem_mem g1)))
  have m2:s.heap.get? (ms[j]).at_=some (ms[j]).led.2:=him (ms[j]).led (iR (List.mem_map_of_mem (List.getElem_mem g2)))
  refine PySem.SeqAt.EqAt.of_refs hne ?_
  have sz:(ivs (ns[j]).fs).length=(ivs (ms[j]).fs).length:=by
   have:=congrArg List.length e
   simpa [Num.val,ivs] using this
  have z:=PySem.SeqAt.RcAt.lists (A:=A) (s:=s) (l:=(ns[j]).at_) (b:=(ms[j]).at_) (items:=(ivs (ns[j]).fs).toArray) (items2:=(ivs (ms[j]).fs).toArray) (e:=fun _=>true) ⟨_,m1,rfl,_,rfl⟩ ⟨_,m2,rfl,_,rfl⟩ (by simpa using sz) hu fun i i1 i2=>by
   have:=ivs_eq (A:=A.in1) (s:=s) (l:=(ns[j]).fs) (l':=(ms[j]).fs) e i (by simpa using i1) (by simpa using i2)
   simpa using this
  have e0:((List.range (ivs (ns[j]).fs).toArray.size).all fun _=>true)=true:=List.all_eq_true.mpr fun _ _=>rfl
  rw [e0] at z
  exact z
theorem Out.noGi {s s':Shared} {mods:LN} {lv ln li:Led} (O:Out s s' mods lv ln li):Out s s' mods lv ln []:=⟨O.keep,O.gv,O.nw,(fun _ h=>nomatch h),O.nodup,O.size,O.os,O.bare⟩
theorem immApp {C:LC} {c:Chunk} {imm0 bag:Led} (h0:∀p∈accLed C,p∈imm0) (h1:c.led∈bag):∀p∈accLed (C++[c]),p∈imm0\/p∈bag:=fun p hp=>by
 unfold accLed at hp
 rw [List.map_append] at hp
 rcases iA hp with h | h
 ·exact .inl (h0 p h)
 ·rcases iC h with rfl | h
  ·exact .inr h1
  ·cases h
section
variable (C:LC) (c:Chunk)
theorem accLen_app:accLen (C++[c])=accLen C+(c.f.length+c.p.length):=by
 simp only [accLen,List.map_append,List.sum_append,List.map_cons,List.map_nil,List.sum_cons,List.sum_nil];rfl
theorem accTx_app:accTx (C++[c])=accTx C++(c.f++c.p):=by
 simp [accTx]
theorem accXs_app:accXs (C++[c])=accXs C++[.ref c.at_]:=by simp [accXs]
end
theorem under_units (A:Around) {body:List Stmt} {env:Env} {u:Nat} (h:A.units+u<cLine) (hu:4<=u):(A.under (.func body env)).units<cLine:=by
 show A.units+_<cLine
 have:(Code.func body env).cUnits<=4:=Nat.le_of_ble_eq_true rfl
 exact Nat.lt_of_le_of_lt (Nat.add_le_add_left (Nat.le_trans this hu) _) h
theorem sNewlineF_valid (w:World) {f ts:Nat} {R:FmtR} {C:LC} {c:Chunk} {ep tn:Nat} {ls:LV} {el:Nat} {tb1 tb2:ON} (hC:accLen C<=50000) (hl:C.length<=50000) (hc:c.f.length+c.p.length<=50000) (hp:c.p≠[]) (hls:ls.length<=50000)
  (hs:((st (accTx C++(c.f++c.p))).length>0&&(st (accTx C++(c.f++c.p))).cps.all Unicode.isSpace)=false):Vd w (sNewlineF w f ts R C c (accTx C++(c.f++c.p)) ep tn ls el tb1 tb2):=by
 have hp1:1<=c.p.length:=by cases h:c.p with | nil=>exact absurd h hp | cons=>simp
 obtain ⟨n,hn⟩:∃n,accLen C+(c.f.length+c.p.length)=n+1:=⟨accLen C+(c.f.length+c.p.length)-1,(Nat.sub_add_cancel (Nat.le_trans hp1 (Nat.le_trans (Nat.le_add_left _ _) (Nat.le_add_left _ _)))).symm⟩
 have hx:=accXs_app C
 revert w
 refine vTree (fun w=>PySem.W.ZFast.zw13353251646379280454 (fnBody w 85) (fnEnv w 85 f [])) [c.led] (fun w=>(fa (.head _) fa0)) (fun w=>fun A room=>by
   rw [←PySem.W.ZFast.ze13353251646379280454]
   exact t85_le (under_units A room.units (show 4<=140 by decide))) ?_ ?_
 ·exact fun w s N0 t0 G_ D_ I_=>
   .u 0x10000f03000000000000c000000000c000000000c0240001806000000000600000000000181b (sCPopN w R.a R.d (R.q 10) tn (accXs C) c.at_ ep) [6,9] [] (sCPopN_valid _ (by simp [accXs];exact leT ‹_› rfl)) tt fun x1 N1 t1=>
   .ui 0x180000800088001b06c1b (sTupNe c.at_ N1 c.f c.tf c.p c.tp [32] (t1+1) [] (t1+2)) [2] [] (sTupNe_valid (fun h=>hp h.2)) (inW D_ (fun p hp=>.inl (by
   rcases iC hp with rfl | hp
   ·exact .head _
   ·cases hp))) tt fun x2 N2 t2=>
   .ui 0x10020006c000000003c000300c000000000000000030000000c0000000000000000000c0240001806000000000600000000000181b (sIaddTup (N2+1) c.at_ c.f c.tf c.p c.tp) [5] [2,5] (sIaddTup_valid) (inW D_ (fun p hp=>.inl (by
   rcases iC hp with rfl | hp
   ·exact .head _
   ·cases hp))) tt fun x3 N3 t3=>
   .use 0x4070000001c0a (sPush w R.a R.d (R.q 10) tn (accXs C) x1 c.f c.tf c.p c.tp) [6,9] [] [] (sPush_valid _ (by simp [accXs];exact leT ‹_› rfl)) (noImm rfl) fun x4 N4 t4 _=>
   have hx':accXs C++[Value.ref x4.1]=accXs (C++[⟨x4.1,c.f,c.tf,c.p,c.tp⟩]):=(hx ⟨x4.1,c.f,c.tf,c.p,c.tp⟩).symm
   have im:∀p∈accLed (C++[⟨x4.1,c.f,c.tf,c.p,c.tp⟩]),p∈(c.led::accLed C:Led)\/p∈[(x4.1,tup [.str (st c.f) c.tf,.str (st c.p) c.tp])]:=immApp (fun p hp=>.tail _ hp) (.head _)
   .ui 0x4000240001806000000000600000000000181b00000 (sLenX w R.a R.d (R.q 10) tn (C++[Chunk.mk x4.fst c.f c.tf c.p c.tp]) (accXs C++[Value.ref x4.fst]) (n+1) x4.snd tb1) [6,9,15] [] (sLenX_valid hx' (by rw [accLen_app];show _+(c.f.length+c.p.length)<=_;exact leT (Nat.add_le_add hC hc) rfl) (by rw [accLen_app];exact hn)) (inW D_ im) tt fun x5 N5 t5=>
   .ui 0x10000f03000000000000c000000000c000000000c0240001806000000000600000000000181b00000 (sOnlyWs w R.a R.d (R.q 10) tn (C++[Chunk.mk x4.fst c.f c.tf c.p c.tp]) (accXs C++[Value.ref x4.fst]) n x4.snd (some x5.snd) tb2) [6,9,15,18] [] (sOnlyWs_valid _ hx' (by rw [accLen_app];show _+(c.f.length+c.p.length)<=_;exact leT (Nat.add_le_add hC hc) rfl) (by simp;exact leT ‹_› rfl) (by rw [accLen_app];exact hn) (by rw [accTx_app];exact hs)) (inW D_ im) tt fun x6 N6 t6=>
   .ui 0x10240001806000000000600000000000181b0000004812048120240001806000000000600000000000181b (sStrX w R.a R.d (R.q 10) tn (C++[Chunk.mk x4.fst c.f c.tf c.p c.tp]) (accXs C++[Value.ref x4.fst]) (accTx C++(c.f++c.p)) x4.snd (some x6.snd)) [6,9,18] [] (sStrX_valid hx' (by rw [accLen_app];show _+(c.f.length+c.p.length)<=_;exact leT (Nat.add_le_add hC hc) rfl) (by simp;exact leT ‹_› rfl) (by rw [accTx_app])) (inW D_ im) tt fun x7 N7 t7=>
   psAppend 0x104800 (Value.type "list") none R.L ls el (Value.str (st (accTx C++(c.f++c.p))) x7.fst) (by exact leT ‹_› rfl) [12] [] fun x8 N8 t8=>
   .u 0x10000f03000000000000c000000000c000000000c0240001806000000000600000000000181b (sReset0 w R.a R.d (R.q 10) tn (accXs C++[Value.ref x4.fst]) x4.snd) [6,9] [] (sReset0_valid _ (by simp [accXs];exact leT ‹_› rfl)) tt fun x9 N9 t9=>
   endQ D_ 0x4 (x9.1,x9.2,x7.1,x8,x6.1,x7.2) [0,3,6,9,12,15,18] [] [] fun s' O=>⟨(x9.1,x9.2,x7.1,x8,x6.1,x7.2),trivial,rfl,rfl,O.noGi⟩
 kernel_rfl
section
variable (w:World) (R:FmtR) (C:LC) (c:Chunk) (tx:LN) (ep tn:Nat) (ls:LV) (el:Nat) (tb1 tb2:ON)
def sNewline:Summ where
 code:=.call (.ref 85) ⟨[.ref R.fx],[]⟩
 need:=fmtLed w R (accXs C++[.ref c.at_]) ep tn ls el tb1 tb2
 imm:=c.led::accLed C
 Res:=Nat×Nat×Nat×Nat×Nat×Nat
 res:=fun x=>.ok (.ret .none)
 upd:=fun x=>(fmtLed w R [] x.1 x.2.1 (ls++[.str (st tx) x.2.2.1]) x.2.2.2.1 (some x.2.2.2.2.1) (some x.2.2.2.2.2)).map (·.2)
 d:=80
 u:=160
theorem sNewline_valid (hC:accLen C<=50000) (hl:C.length<=50000) (hc:c.f.length+c.p.length<=50000) (hp:c.p≠[]) (hls:ls.length<=50000)
  (ht:tx=accTx C++(c.f++c.p)) (hs:((st tx).length>0&&(st tx).cps.all Unicode.isSpace)=false):Vd w (sNewline w R C c tx ep tn ls el tb1 tb2):=by
 subst ht
 revert w
 refine vOne ?_ ?_
 ·exact fun w s N0 t0 G_ D_ I_=>
   .ui 0x1000080200000002 (sNewlineF w N0 t0 R C c _ ep tn ls el tb1 tb2) [0,3,6,9,12,15,18,2] [] (sNewlineF_valid _ hC hl hc hp hls hs) (inJ I_) tt fun x1 N1 t1=>
   endQ D_ 0x4 x1 [0,3,6,9,12,15,18] [] [] fun s' O=>⟨x1,trivial,rfl,rfl,O⟩
 kernel_rfl
end
noncomputable def rangeO (a b c:Int) (t u v:Nat):Obj:={cls:=.type "range",data:=.fields #[.int a t,.int b u,.int c v]}
noncomputable def riO (v left step:Int):Obj:={cls:=.type "range_iterator",data:=.fields #[.int v 0,.int left 0,.int step 0]}
def sRangeIter (r:Nat) (a b c:Int) (t u v:Nat) (n:Int):Summ where
 code:=.builtin "range.__iter__" ⟨[.ref r],[]⟩
 need:=[(r,rangeO a b c t u v)]
 Res:=Nat
 res:=fun x=>.ok (.ret (.ref x))
 upd:=fun _=>[rangeO a b c t u v]
 new:=fun x=>[(x,riO a n c)]
 d:=5
 u:=10
theorem sRangeIter_valid {w:World} {r:Nat} {a b c:Int} {t u v:Nat} {n:Int} (hn:Builtin.Range.rangeSize a b c=n) (hs:Builtin.Range.small a b c=true):Vd w (sRangeIter r a b c t u v n):=by
 subst hn
 refine valid_m rfl PySem.F.slot_range_iter.plain PySem.F.entry_range_iter (AutoRange.range___iter___range_1 r a b c t u v (by unfold Builtin.Range.small at hs;simp [hs])) fun A s room base need imm=>⟨need _ (.head _),?_⟩
 unfold Builtin.Range.small at hs
 simp only [hs,if_true]
 exact ⟨s.heap.objs.size,trivial,rfl,rfl,out_push (need:=[(r,rangeO a b c t u v)]) rfl rfl rfl rfl need⟩
def sRangeNext (it:Nat) (v left step v' left':Int):Summ where
 code:=.builtin "range_iterator.__next__" ⟨[.ref it],[]⟩
 need:=[(it,riO v left step)]
 Res:=Nat
 res:=fun x=>.ok (.ret (.int v x))
 upd:=fun _=>[riO v' left' step]
 new:=fun x=>[]
 d:=5
 u:=10
theorem sRangeNext_valid {w:World} {it:Nat} {v left step v' left':Int} (h:0<left) (hv:v'=v+step) (hl:left'=left-1):Vd w (sRangeNext it v left step v' left'):=by
 subst hv hl
 refine valid_m rfl PySem.F.slot_range_iterator_next.plain PySem.F.entry_range_iterator_next (AutoRange.range_iterator___next___range_iterator_1 it v left step (by lia)) fun A s room base need imm=>⟨need _ (.head _),?_⟩
 have ho:=need _ (.head _)
 have h1:=Heap.get?_update_self (h:=s.heap) (Obj.mapFields fun x=>x.setIfInBounds 0 (rawInt (v+step))) ho rfl
 have h2:=Heap.get?_update_self (h:=s.heap.update it (Obj.mapFields fun x=>x.setIfInBounds 0 (rawInt (v+step)))) (Obj.mapFields fun x=>x.setIfInBounds 1 (rawInt (left-1))) h1 rfl
 exact ⟨s.toks,trivial,rfl,rfl,out_one (o:=riO v left step) ((Heap.SameBut.update ..).trans (Heap.SameBut.update ..)) rfl rfl h2⟩
noncomputable abbrev sLenS (l:LN) (t n:Nat):Summ:=sT "len" [.str (st l) t] (.int (Int.ofNat n))
theorem sLenS_valid {w:World} {l:LN} {t n:Nat} (hn:l.length=n) (h:l.length<=100000):Vd w (sLenS l t n):=by
 subst hn
 have hl:(st l).length=l.length:=by simp [st,Str.length]
 exact valid_b rfl plain_len entry_len fun A s room base need imm=>
  wpAny_len_body (typeIs_str _ _ _) PySem.F.slot_str_len PySem.F.entry_str_len (PySem.F.args_str_len_1 _) (gives_str_len _ _) (by lia) (by rw [hl];lia) (by rw [hl];exact ⟨s.toks+1,trivial,rfl,rfl,out_nil rfl rfl rfl⟩)
noncomputable abbrev sGetS (l:LN) (t:Nat) (i:Int) (u c:Nat):Summ:=sT "str.__getitem__" [.str (st l) t,.int i u] (.str (st [c]))
theorem sGetS_valid {w:World} {l:LN} {t:Nat} {i:Int} {u c:Nat} (k:Nat) (hk:seqIndex? i l.length=some k) (hc:l[k]? =some c) (hr:(decide (i< -(2^63:Int))|| decide (i>=2^63))=false):Vd w (sGetS l t i u c):=by
 have hl:(st l).length=l.length:=by simp [st,Str.length]
 refine sT_str PySem.F.slot_str_getitem.plain PySem.F.entry_str_getitem (gives_str_getitem (st l) i t u c hr (by rw [hl,hk];simp [st,hc])) rfl ?_
 show 1<=sizeLine
 rw [sizeLine_eq];decide
section
variable (w:World) (R:FmtR) (q:Nat->Nat) (fv sv:Value) (tc:Nat)
def appF0:Obj:=frameO w [("self",q 0,.ref R.fx),("fws",q 1,fv),("string",q 2,sv),("ch",q 3,.str (st [R.sg]) tc)] 4
def appF1 (qi i ti:Nat):Obj:=frameO w [("self",q 0,.ref R.fx),("fws",q 1,fv),("string",q 2,sv),("ch",q 3,.str (st [R.sg]) tc),("i",qi,.int (Int.ofNat i) ti)] 5
def appF2 (qi i ti qp:Nat) (pv:Value):Obj:=frameO w [("self",q 0,.ref R.fx),("fws",q 1,fv),("string",q 2,sv),("ch",q 3,.str (st [R.sg]) tc),("i",qi,.int (Int.ofNat i) ti),("prevpart",qp,pv)] 6
end
def inC (w:World) (F it:Nat):Code:=loopC (atS (fnBody w 120) 1 [(0,0),(0,0)]) (.ref it) (fnEnv w 120 F [])
def sJ (w:World) (R:FmtR) (F it:Nat) (q:Nat->Nat) (xs:LV) (im:Led) (ep tn:Nat) (fv sv:Value) (tc qi i0 t0' qp:Nat) (pv:Value) (k:Nat) (fl:Flow) (i:Nat):Summ where
 code:=inC w F it
 need:=[(F,appF2 w R q fv sv tc qi i0 t0' qp pv),(R.fx,inst 123 R.fd),(R.fd,fmtD w R),(R.a,accO R.d xs ep),(R.d,accD w (R.q 10) tn),(it,riO (Int.ofNat k) (Int.ofNat k) (-1))]
 imm:=im
 Res:=Value×Nat×Value×Nat
 res:=fun x=>.ok fl
 upd:=fun x=>[appF2 w R q x.1 sv tc qi i x.2.1 qp x.2.2.1,inst 123 R.fd,fmtD w R,accO R.d xs ep,accD w (R.q 10) tn,riO (Int.ofNat x.2.2.2) (Int.ofNat x.2.2.2) (-1)]
 d:=30
 u:=60
section
variable (w:World) (R:FmtR) (F it:Nat) (q:Nat->Nat) (xs:LV) (im:Led) (ep tn:Nat) (fv sv:Value)
def sK0 (tc:Nat):Summ where
 code:=inC w F it
 need:=[(F,appF0 w R q fv sv tc),(R.fx,inst 123 R.fd),(R.fd,fmtD w R),(R.a,accO R.d xs ep),(R.d,accD w (R.q 10) tn),(it,riO (Int.ofNat 0) (Int.ofNat 0) (-1))]
 imm:=im
 Res:=Unit
 res:=fun x=>.ok .cont
 upd:=fun x=>[appF0 w R q fv sv tc,inst 123 R.fd,fmtD w R,accO R.d xs ep,accD w (R.q 10) tn,riO (Int.ofNat 0) (Int.ofNat 0) (-1)]
 d:=30
 u:=60
def sK1 (tc k:Nat):Summ where
 code:=inC w F it
 need:=[(F,appF0 w R q fv sv tc),(R.fx,inst 123 R.fd),(R.fd,fmtD w R),(R.a,accO R.d xs ep),(R.d,accD w (R.q 10) tn),(it,riO (Int.ofNat (k+1)) (Int.ofNat (k+1)) (-1))]
 imm:=im
 Res:=Value×Nat×Nat
 res:=fun x=>.ok .next
 upd:=fun x=>[appF1 w R q x.1 sv tc x.2.1 (k+1) x.2.2,inst 123 R.fd,fmtD w R,accO R.d xs ep,accD w (R.q 10) tn,riO (Int.ofNat k) (Int.ofNat k) (-1)]
 d:=30
 u:=60
def sK2 (tc k:Nat) (fl:Flow) (i:Nat):Summ where
 code:=inC w F it
 need:=[(F,appF0 w R q fv sv tc),(R.fx,inst 123 R.fd),(R.fd,fmtD w R),(R.a,accO R.d xs ep),(R.d,accD w (R.q 10) tn),(it,riO (Int.ofNat (k+1)) (Int.ofNat (k+1)) (-1))]
 imm:=im
 Res:=Value×Nat×Nat×Nat×Value×Nat
 res:=fun x=>.ok fl
 upd:=fun x=>[appF2 w R q x.1 sv tc x.2.1 i x.2.2.1 x.2.2.2.1 x.2.2.2.2.1,inst 123 R.fd,fmtD w R,accO R.d xs ep,accD w (R.q 10) tn,riO (Int.ofNat x.2.2.2.2.2) (Int.ofNat x.2.2.2.2.2) (-1)]
 d:=30
 u:=60
end
noncomputable def brk (sg:Nat) (C:LC):Nat->ON
 | 0=>none
 | k+1=>if (C[k+1]?.map fun c=>c.f.head?)=some (some sg) then some (k+1) else brk sg C k
theorem brk_succ (sg:Nat) (C:LC) (k:Nat):brk sg C (k+1)=if (C[k+1]?.map fun c=>c.f.head?)=some (some sg) then some (k+1) else brk sg C k:=rfl
noncomputable def flOf:ON->Flow
 | some _=>.next
 | none=>.cont
noncomputable def iEnd (i0 k:Nat):ON->Nat
 | some i=>i
 | none=>match k with | 0=>i0 | _+1=>1
theorem seqIdx {k n:Nat} (h:k<n) (hn:n<=100000):seqIndex? (Int.ofNat k) n=some k/\Builtin.List.listFitsIndex (Int.ofNat k)=true:=⟨seq_ix h,fits_nat k (Nat.le_trans (Nat.le_of_lt h) hn)⟩
theorem sSub1_valid {w:World} (k t u:Nat):Vd w (sT "int.__sub__" [.int (Int.ofNat (k+1)) t,.int (Int.ofNat 1) u] (.int (Int.ofNat k))):=
 sT_int PySem.F.slot_int_sub.plain PySem.F.entry_int_sub (gives_int_sub _ _ _ _) (by simp)
theorem space_valid {w:World} {sg t:Nat} (h:sg=32\/sg=9):Vd w (sV "str.isspace" [.str (st [sg]) t] (.bool true)):=
 sV_valid PySem.F.slot_str_isspace.plain PySem.F.entry_str_isspace (gives_str_isspace _ _) (by rcases h with rfl | rfl <;>decide +kernel)
def pspace {w:World} {G:OblG} {gl:List (Nat×Code)} {bag:Led} (H_:Nat) (sg t:Nat) (h:sg=32\/sg=9) (next:∀(_:(sV "str.isspace" [.str (st [sg]) t] (.bool true)).Res) (_ _:Nat),Pf mask pw w G [] bag):Pf mask pw w G gl bag:=.u H_ (sV "str.isspace" [.str (st [sg]) t] (.bool true)) [] [] (space_valid h) tt next
theorem lastIdx {l:LN} {c:Nat} (h:l.getLast?=some c) (hl:l.length<=100000):∃k,seqIndex? (-1) l.length=some k/\l[k]? =some c:=by
 cases l with
 | nil=>cases h
 | cons a l=>exact ⟨l.length,seq_m,by rw [List.getLast?_eq_getElem?] at h;exact h⟩
noncomputable def PartOk (sg:Nat) (c:Chunk):Prop:=c.f.length<=100000/\c.p.length<=100000/\∃lc,c.p.getLast?=some lc/\lc≠sg
theorem sJ_imm {w:World} {R:FmtR} {F it:Nat} {q:Nat->Nat} {xs:LV} {im im':Led} {ep tn:Nat} {fv sv:Value} {tc qi i0 t0' qp:Nat} {pv:Value} {k:Nat} {fl:Flow} {i:Nat} (hs:∀p∈im,p∈im') (h:Vd w (sJ w R F it q xs im ep tn fv sv tc qi i0 t0' qp pv k fl i)):Vd w (sJ w R F it q xs im' ep tn fv sv tc qi i0 t0' qp pv k fl i):=
 fun A s room base need imm nodup msk gn=>h A s ⟨room.handled,room.depth,room.units,room.env,room.frames,room.fr⟩ base need (fun p hp=>imm p (hs p hp)) nodup msk gn
theorem two_mem {a b:Nat×Obj} {l:Led}:∀p∈([a,b]:Led),p∈a::b::l:=fun p hp=>by
 rcases iC hp with rfl | hp
 ·exact .head _
 ·rcases iC hp with rfl | hp
  ·exact .tail _ (.head _)
  ·cases hp
theorem one_mem {a:Nat×Obj} {l:Led}:∀p∈([a]:Led),p∈a::l:=fa (.head _) fa0
theorem firstIdx {c:Nat} {l:LN}:seqIndex? 0 (c::l).length=some 0:=by
 unfold seqIndex?;simp
theorem sJ_valid (R:FmtR) (F it:Nat) (q:Nat->Nat) (C:LC) (ep tn:Nat) (sv:Value) (tc qi qp:Nat) (hsg:R.sg=32\/R.sg=9) (hC:∀c∈C,PartOk R.sg c) (hn:C.length<=100000):∀(k:Nat) (w:World) (fv:Value) (i0 t0':Nat) (pv:Value),k<C.length->
  Vd w (sJ w R F it q (accXs C) (accLed C) ep tn fv sv tc qi i0 t0' qp pv k (flOf (brk R.sg C k)) (iEnd i0 k (brk R.sg C k))):=by
 intro k
 induction k with
 | zero=>
  intro w fv i0 t0' pv hk
  revert w
  refine vRow ?_ ?_
  ·exact fun w s N0 t0 G_ D_ I_=>
    endQ D_ 0x40000b05415054000540005400 (fv,t0',pv,0) [0,3,6,9,12,15] [] [] fun s' O=>⟨(fv,t0',pv,0),trivial,rfl,rfl,O.noGi⟩
  kernel_rfl
 | succ k ih=>
  intro w fv i0 t0' pv hk
  have hc:C[k+1]? =some C[k+1]:=List.getElem?_eq_getElem hk
  have hk':k<C.length:=by lia
  have hb:C[k]? =some C[k]:=List.getElem?_eq_getElem hk'
  have mc:=List.getElem_mem hk
  have mb:=List.getElem_mem hk'
  obtain ⟨hcf,hcp,-⟩:=hC _ mc
  obtain ⟨hbf,hbp,lc,hlc,hls⟩:=hC _ mb
  generalize C[k+1]=c at hc mc hcf hcp
  generalize C[k]=d at hb mb hbf hbp hlc
  have lc1:c.led∈accLed C:=List.mem_map_of_mem mc
  have lb1:d.led∈accLed C:=List.mem_map_of_mem mb
  obtain ⟨ca,cf,tf,cp,tp⟩:=c
  obtain ⟨cb,g,uf,p',up⟩:=d
  have hxs:(accXs C).length=C.length:=by simp [accXs]
  have ix:=seqIdx (k:=k+1) (n:=(accXs C).length) (by rw [hxs];exact hk) (by rw [hxs];exact hn)
  have ix':=seqIdx (k:=k) (n:=(accXs C).length) (by rw [hxs];exact hk') (by rw [hxs];exact hn)
  have vx:(accXs C)[k+1]? =some (.ref ca):=by simp [accXs,hc]
  have vx':(accXs C)[k]? =some (.ref cb):=by simp [accXs,hb]
  obtain ⟨lk,hlk,hlk2⟩:=lastIdx hlc hbp
  obtain ⟨m,hm⟩:∃m,p'.length=m+1:=by
   cases h:p' with
   | nil=>subst h;cases hlc
   | cons=>exact ⟨_,rfl⟩
  have hneq:((st [lc]).cps.toList==(st [R.sg]).cps.toList)=false:=by simp [st,hls]
  have sub2:∀{x y:Nat×Obj},x∈accLed C->y∈accLed C->∀p∈x::y::accLed C,p∈accLed C:=fun hx hy p hp=>by
   rcases iC hp with rfl | hp
   ·exact hx
   ·rcases iC hp with rfl | hp
    ·exact hy
    ·exact hp
  have sub1:∀{x:Nat×Obj},x∈accLed C->∀p∈x::accLed C,p∈accLed C:=fun hx p hp=>by
   rcases iC hp with rfl | hp
   ·exact hx
   ·exact hp
  cases cf with
  | nil=>
   have e:brk R.sg C (k+1)=brk R.sg C k:=by rw [brk_succ,hc];simp
   have e2:iEnd i0 (k+1) (brk R.sg C k)=iEnd (k+1) k (brk R.sg C k):=by cases brk R.sg C k <;>simp [iEnd];cases k <;>simp [iEnd]
   rw [e,e2]
   refine sJ_imm (sub2 lc1 lb1) ?_
   revert w
   refine vRowR [(ca,tup2 [] tf cp tp),(cb,tup2 g uf p' up)] (fun w=>two_mem) ?_ ?_
   ·exact fun w s N0 t0 G_ D_ I_=>
     .u 0x10540005400 (sRangeNext it (Int.ofNat (k+1)) (Int.ofNat (k+1)) (-1) (Int.ofNat k) (Int.ofNat k)) [15] [] (sRangeNext_valid (by simp <;>omega) (by simp <;>lia) (by simp)) tt fun x1 N1 t1=>
     pspace 0x10000601806 R.sg tc hsg fun x2 N2 t2=>
     psGetInt 0x10000f000000000003c0003c000000003c0603000024090000000009000000000002406 (Value.ref 207) (some R.d) R.a (accXs C) ep (Int.ofNat (k+1)) x1 (Value.ref ca) _ ix.1 vx ix.2 [9] [] fun x3 N3 t3=>
     .u 0x4000180c0000902400000000240000000000090180000000018060180080000800008020080000 (sT "int.__sub__" [Value.int (Int.ofNat (k+1)) x1,Value.int (Int.ofNat 1) (t3+5)] (Value.int (Int.ofNat k))) [] [] (sSub1_valid _ _ _) tt fun x4 N4 t4=>
     psGetInt 0x40003c00000000000f0000f000000000f (Value.ref 207) (some R.d) R.a (accXs C) ep (Int.ofNat k) x4 (Value.ref cb) _ ix'.1 vx' ix'.2 [9] [] fun x5 N5 t5=>
     .u 0x1018060180080400804008060180400 (sLenS p' up (m+1)) [] [] (sLenS_valid hm hbp) tt fun x6 N6 t6=>
     .u 0x10000000006 (sGetS p' up (-1) (t6+1) lc) [] [] (sGetS_valid _ hlk hlk2 (by decide)) tt fun x7 N7 t7=>
     psStrEq 0x100006 (st [lc]) x7 (st [R.sg]) tc false hneq [] fun x8 N8 t8=>
     .ui 0x1 (sJ w R F it q (accXs C) ((ca,tup2 [] tf cp tp)::(cb,tup2 g uf p' up)::(accLed C)) ep tn (Value.str (st []) tf) sv tc qi (k+1) x1 qp (Value.str (st p') up) k (flOf (brk R.sg C k)) (iEnd (k+1) k (brk R.sg C k))) [0,3,6,9,12,15] [] (sJ_imm (fun p hp=>.tail _ (.tail _ hp)) (ih _ _ _ _ _ hk')) (inJ I_) tt fun x9 N9 t9=>
     endQ D_ 0x4 x9 [0,3,6,9,12,15] [] [] fun s' O=>⟨x9,trivial,rfl,rfl,O.noGi⟩
   kernel_rfl
  | cons c0 fr=>
   by_cases h0:c0=R.sg
   ·subst h0
    have e:brk R.sg C (k+1)=some (k+1):=by rw [brk_succ,hc];simp
    rw [e]
    refine sJ_imm (sub1 lc1) ?_
    revert w
    refine vRowR [(ca,tup2 (R.sg::fr) tf cp tp)] (fun w=>one_mem) ?_ ?_
    ·exact fun w s N0 t0 G_ D_ I_=>
      .u 0x10540005400 (sRangeNext it (Int.ofNat (k+1)) (Int.ofNat (k+1)) (-1) (Int.ofNat k) (Int.ofNat k)) [15] [] (sRangeNext_valid (by simp <;>omega) (by simp <;>lia) (by simp)) tt fun x1 N1 t1=>
      pspace 0x10000601806 R.sg tc hsg fun x2 N2 t2=>
      psGetInt 0x10000f000000000003c0003c000000003c0603000024090000000009000000000002406 (Value.ref 207) (some R.d) R.a (accXs C) ep (Int.ofNat (k+1)) x1 (Value.ref ca) _ ix.1 vx ix.2 [9] [] fun x3 N3 t3=>
      .u 0x1018060180080000800008020080000 (sLenS (R.sg::fr) tf (fr.length+1)) [] [] (sLenS_valid rfl hcf) tt fun x4 N4 t4=>
      .u 0x100006 (sGetS (R.sg::fr) tf 0 (t4+0) R.sg) [] [] (sGetS_valid 0 (firstIdx) rfl (by decide)) tt fun x5 N5 t5=>
      psStrEq 0x100006 (st [R.sg]) x5 (st [R.sg]) tc true (by simp) [] fun x6 N6 t6=>
      endQ D_ 0x4 (.str (st (R.sg::fr)) tf,x1,pv,k) [0,3,6,9,12,15] [] [] fun s' O=>⟨(.str (st (R.sg::fr)) tf,x1,pv,k),trivial,rfl,rfl,O.noGi⟩
    kernel_rfl
   ·have e:brk R.sg C (k+1)=brk R.sg C k:=by rw [brk_succ,hc];simp [h0]
    have e2:iEnd i0 (k+1) (brk R.sg C k)=iEnd (k+1) k (brk R.sg C k):=by cases brk R.sg C k <;>simp [iEnd];cases k <;>simp [iEnd]
    have hneq2:((st [c0]).cps.toList==(st [R.sg]).cps.toList)=false:=by simp [st,h0]
    rw [e,e2]
    refine sJ_imm (sub2 lc1 lb1) ?_
    revert w
    refine vRowR [(ca,tup2 (c0::fr) tf cp tp),(cb,tup2 g uf p' up)] (fun w=>two_mem) ?_ ?_
    ·exact fun w s N0 t0 G_ D_ I_=>
      .u 0x10540005400 (sRangeNext it (Int.ofNat (k+1)) (Int.ofNat (k+1)) (-1) (Int.ofNat k) (Int.ofNat k)) [15] [] (sRangeNext_valid (by simp <;>omega) (by simp <;>lia) (by simp)) tt fun x1 N1 t1=>
      pspace 0x10000601806 R.sg tc hsg fun x2 N2 t2=>
      psGetInt 0x10000f000000000003c0003c000000003c0603000024090000000009000000000002406 (Value.ref 207) (some R.d) R.a (accXs C) ep (Int.ofNat (k+1)) x1 (Value.ref ca) _ ix.1 vx ix.2 [9] [] fun x3 N3 t3=>
      .u 0x1018060180080000800008020080000 (sLenS (c0::fr) tf (fr.length+1)) [] [] (sLenS_valid rfl hcf) tt fun x4 N4 t4=>
      .u 0x100006 (sGetS (c0::fr) tf 0 (t4+0) c0) [] [] (sGetS_valid 0 (firstIdx) rfl (by decide)) tt fun x5 N5 t5=>
      psStrEq 0x100006 (st [c0]) x5 (st [R.sg]) tc false hneq2 [] fun x6 N6 t6=>
      .u 0x10000603000024090000000009000000000002406 (sT "int.__sub__" [Value.int (Int.ofNat (k+1)) x1,Value.int (Int.ofNat 1) (t6+1)] (Value.int (Int.ofNat k))) [] [] (sSub1_valid _ _ _) tt fun x7 N7 t7=>
      psGetInt 0x40003c00000000000f0000f000000000f (Value.ref 207) (some R.d) R.a (accXs C) ep (Int.ofNat k) x7 (Value.ref cb) _ ix'.1 vx' ix'.2 [9] [] fun x8 N8 t8=>
      .u 0x1018060180080400804008060180400 (sLenS p' up (m+1)) [] [] (sLenS_valid hm hbp) tt fun x9 N9 t9=>
      .u 0x10000000006 (sGetS p' up (-1) (t9+1) lc) [] [] (sGetS_valid _ hlk hlk2 (by decide)) tt fun x10 N10 t10=>
      psStrEq 0x100006 (st [lc]) x10 (st [R.sg]) tc false hneq [] fun x11 N11 t11=>
      .ui 0x1 (sJ w R F it q (accXs C) ((ca,tup2 (c0::fr) tf cp tp)::(cb,tup2 g uf p' up)::(accLed C)) ep tn (Value.str (st (c0::fr)) tf) sv tc qi (k+1) x1 qp (Value.str (st p') up) k (flOf (brk R.sg C k)) (iEnd (k+1) k (brk R.sg C k))) [0,3,6,9,12,15] [] (sJ_imm (fun p hp=>.tail _ (.tail _ hp)) (ih _ _ _ _ _ hk')) (inJ I_) tt fun x12 N12 t12=>
      endQ D_ 0x4 x12 [0,3,6,9,12,15] [] [] fun s' O=>⟨x12,trivial,rfl,rfl,O.noGi⟩
    kernel_rfl
theorem sK0_valid (w:World) (R:FmtR) {F it:Nat} {q:Nat->Nat} {xs:LV} {im:Led} {ep tn:Nat} {fv sv:Value} {tc:Nat}:Vd w (sK0 w R F it q xs im ep tn fv sv tc):=
 by
 revert w
 refine vRow ?_ ?_
 ·exact fun w s N0 t0 G_ D_ I_=>
   endQ D_ 0x40000b05415054000540005400 () [0,3,6,9,12,15] [] [] fun s' O=>⟨(),trivial,rfl,rfl,O.noGi⟩
 kernel_rfl
section
variable {w:World} {R:FmtR} {F it:Nat} {q:Nat->Nat} {xs:LV} {im im':Led} {ep tn:Nat} {fv sv:Value} {tc k:Nat}
theorem sK1_imm (hs:∀p∈im,p∈im') (h:Vd w (sK1 w R F it q xs im ep tn fv sv tc k)):Vd w (sK1 w R F it q xs im' ep tn fv sv tc k):=
 fun A s room base need imm nodup msk gn=>h A s ⟨room.handled,room.depth,room.units,room.env,room.frames,room.fr⟩ base need (fun p hp=>imm p (hs p hp)) nodup msk gn
theorem sK2_imm {fl:Flow} {i:Nat} (hs:∀p∈im,p∈im') (h:Vd w (sK2 w R F it q xs im ep tn fv sv tc k fl i)):Vd w (sK2 w R F it q xs im' ep tn fv sv tc k fl i):=
 fun A s room base need imm nodup msk gn=>h A s ⟨room.handled,room.depth,room.units,room.env,room.frames,room.fr⟩ base need (fun p hp=>imm p (hs p hp)) nodup msk gn
end
theorem sK1_valid (w:World) (R:FmtR) {F it:Nat} {q:Nat->Nat} (C:LC) {ep tn:Nat} {fv sv:Value} {tc k:Nat} (hsg:R.sg=32\/R.sg=9) (hC:∀c∈C,PartOk R.sg c) (hn:C.length<=100000) (hk:k+1<C.length) (hh:(C[k+1]?.map fun c=>c.f.head?)=some (some R.sg)):
  Vd w (sK1 w R F it q (accXs C) (accLed C) ep tn fv sv tc k):=by
 have hc:C[k+1]? =some C[k+1]:=List.getElem?_eq_getElem hk
 have hk':k<C.length:=by lia
 have hb:C[k]? =some C[k]:=List.getElem?_eq_getElem hk'
 have mc:=List.getElem_mem hk
 have mb:=List.getElem_mem hk'
 obtain ⟨hcf,hcp,-⟩:=hC _ mc
 obtain ⟨hbf,hbp,lc,hlc,hls⟩:=hC _ mb
 generalize C[k+1]=c at hc mc hcf hcp
 generalize C[k]=d at hb mb hbf hbp hlc
 have lc1:c.led∈accLed C:=List.mem_map_of_mem mc
 have lb1:d.led∈accLed C:=List.mem_map_of_mem mb
 obtain ⟨ca,cf,tf,cp,tp⟩:=c
 obtain ⟨cb,g,uf,p',up⟩:=d
 have hxs:(accXs C).length=C.length:=by simp [accXs]
 have ix:=seqIdx (k:=k+1) (n:=(accXs C).length) (by rw [hxs];exact hk) (by rw [hxs];exact hn)
 have ix':=seqIdx (k:=k) (n:=(accXs C).length) (by rw [hxs];exact hk') (by rw [hxs];exact hn)
 have vx:(accXs C)[k+1]? =some (.ref ca):=by simp [accXs,hc]
 have vx':(accXs C)[k]? =some (.ref cb):=by simp [accXs,hb]
 obtain ⟨lk,hlk,hlk2⟩:=lastIdx hlc hbp
 obtain ⟨m,hm⟩:∃m,p'.length=m+1:=by
  cases h:p' with
  | nil=>subst h;cases hlc
  | cons=>exact ⟨_,rfl⟩
 have hneq:((st [lc]).cps.toList==(st [R.sg]).cps.toList)=false:=by simp [st,hls]
 have sub2:∀{x y:Nat×Obj},x∈accLed C->y∈accLed C->∀p∈x::y::accLed C,p∈accLed C:=fun hx hy p hp=>by
  rcases iC hp with rfl | hp
  ·exact hx
  ·rcases iC hp with rfl | hp
   ·exact hy
   ·exact hp
 have sub1:∀{x:Nat×Obj},x∈accLed C->∀p∈x::accLed C,p∈accLed C:=fun hx p hp=>by
  rcases iC hp with rfl | hp
  ·exact hx
  ·exact hp
 cases cf with
 | nil=>rw [hc] at hh;simp at hh
 | cons c0 fr=>
  have h0:c0=R.sg:=by rw [hc] at hh;simpa using hh
  subst h0
  refine sK1_imm (sub1 lc1) ?_
  revert w
  refine vRowR [(ca,tup2 (R.sg::fr) tf cp tp)] (fun w=>one_mem) ?_ ?_
  ·exact fun w s N0 t0 G_ D_ I_=>
    .u 0x10540005400 (sRangeNext it (Int.ofNat (k+1)) (Int.ofNat (k+1)) (-1) (Int.ofNat k) (Int.ofNat k)) [15] [] (sRangeNext_valid (by simp <;>omega) (by simp <;>lia) (by simp)) tt fun x1 N1 t1=>
    pspace 0x10000601806 R.sg tc hsg fun x2 N2 t2=>
    psGetInt 0x10000f000000000003c0003c000000003c0603000024090000000009000000000002406 (Value.ref 207) (some R.d) R.a (accXs C) ep (Int.ofNat (k+1)) x1 (Value.ref ca) _ ix.1 vx ix.2 [9] [] fun x3 N3 t3=>
    .u 0x1018060180080000800008020080000 (sLenS (R.sg::fr) tf (fr.length+1)) [] [] (sLenS_valid rfl hcf) tt fun x4 N4 t4=>
    .u 0x100006 (sGetS (R.sg::fr) tf 0 (t4+0) R.sg) [] [] (sGetS_valid 0 (firstIdx) rfl (by decide)) tt fun x5 N5 t5=>
    psStrEq 0x100006 (st [R.sg]) x5 (st [R.sg]) tc true (by simp) [] fun x6 N6 t6=>
    endQ D_ 0x4 (.str (st (R.sg::fr)) tf,t1,x1) [0,3,6,9,12,15] [] [] fun s' O=>⟨(.str (st (R.sg::fr)) tf,t1,x1),trivial,rfl,rfl,O.noGi⟩
  kernel_rfl
theorem sK2_valid (w:World) (R:FmtR) (F it:Nat) (q:Nat->Nat) (C:LC) (ep tn:Nat) (fv sv:Value) (tc k:Nat) (hsg:R.sg=32\/R.sg=9) (hC:∀c∈C,PartOk R.sg c) (hn:C.length<=100000) (hk:k+1<C.length) (hh:¬(C[k+1]?.map fun c=>c.f.head?)=some (some R.sg)):
  Vd w (sK2 w R F it q (accXs C) (accLed C) ep tn fv sv tc k (flOf (brk R.sg C k)) (iEnd (k+1) k (brk R.sg C k))):=by
 have hc:C[k+1]? =some C[k+1]:=List.getElem?_eq_getElem hk
 have hk':k<C.length:=by lia
 have hb:C[k]? =some C[k]:=List.getElem?_eq_getElem hk'
 have mc:=List.getElem_mem hk
 have mb:=List.getElem_mem hk'
 obtain ⟨hcf,hcp,-⟩:=hC _ mc
 obtain ⟨hbf,hbp,lc,hlc,hls⟩:=hC _ mb
 generalize C[k+1]=c at hc mc hcf hcp
 generalize C[k]=d at hb mb hbf hbp hlc
 have lc1:c.led∈accLed C:=List.mem_map_of_mem mc
 have lb1:d.led∈accLed C:=List.mem_map_of_mem mb
 obtain ⟨ca,cf,tf,cp,tp⟩:=c
 obtain ⟨cb,g,uf,p',up⟩:=d
 have hxs:(accXs C).length=C.length:=by simp [accXs]
 have ix:=seqIdx (k:=k+1) (n:=(accXs C).length) (by rw [hxs];exact hk) (by rw [hxs];exact hn)
 have ix':=seqIdx (k:=k) (n:=(accXs C).length) (by rw [hxs];exact hk') (by rw [hxs];exact hn)
 have vx:(accXs C)[k+1]? =some (.ref ca):=by simp [accXs,hc]
 have vx':(accXs C)[k]? =some (.ref cb):=by simp [accXs,hb]
 obtain ⟨lk,hlk,hlk2⟩:=lastIdx hlc hbp
 obtain ⟨m,hm⟩:∃m,p'.length=m+1:=by
  cases h:p' with
  | nil=>subst h;cases hlc
  | cons=>exact ⟨_,rfl⟩
 have hneq:((st [lc]).cps.toList==(st [R.sg]).cps.toList)=false:=by simp [st,hls]
 have sub2:∀{x y:Nat×Obj},x∈accLed C->y∈accLed C->∀p∈x::y::accLed C,p∈accLed C:=fun hx hy p hp=>by
  rcases iC hp with rfl | hp
  ·exact hx
  ·rcases iC hp with rfl | hp
   ·exact hy
   ·exact hp
 have sub1:∀{x:Nat×Obj},x∈accLed C->∀p∈x::accLed C,p∈accLed C:=fun hx p hp=>by
  rcases iC hp with rfl | hp
  ·exact hx
  ·exact hp
 cases cf with
 | nil=>
  refine sK2_imm (sub2 lc1 lb1) ?_
  revert w
  refine vRowR [(ca,tup2 [] tf cp tp),(cb,tup2 g uf p' up)] (fun w=>two_mem) ?_ ?_
  ·exact fun w s N0 t0 G_ D_ I_=>
    .u 0x10540005400 (sRangeNext it (Int.ofNat (k+1)) (Int.ofNat (k+1)) (-1) (Int.ofNat k) (Int.ofNat k)) [15] [] (sRangeNext_valid (by simp <;>omega) (by simp <;>lia) (by simp)) tt fun x1 N1 t1=>
    pspace 0x10000601806 R.sg tc hsg fun x2 N2 t2=>
    psGetInt 0x10000f000000000003c0003c000000003c0603000024090000000009000000000002406 (Value.ref 207) (some R.d) R.a (accXs C) ep (Int.ofNat (k+1)) x1 (Value.ref ca) _ ix.1 vx ix.2 [9] [] fun x3 N3 t3=>
    .u 0x4000180c0000902400000000240000000000090180000000018060180080000800008020080000 (sT "int.__sub__" [Value.int (Int.ofNat (k+1)) x1,Value.int (Int.ofNat 1) (t3+5)] (Value.int (Int.ofNat k))) [] [] (sSub1_valid _ _ _) tt fun x4 N4 t4=>
    psGetInt 0x40003c00000000000f0000f000000000f (Value.ref 207) (some R.d) R.a (accXs C) ep (Int.ofNat k) x4 (Value.ref cb) _ ix'.1 vx' ix'.2 [9] [] fun x5 N5 t5=>
    .u 0x1018060180080400804008060180400 (sLenS p' up (m+1)) [] [] (sLenS_valid hm hbp) tt fun x6 N6 t6=>
    .u 0x10000000006 (sGetS p' up (-1) (t6+1) lc) [] [] (sGetS_valid _ hlk hlk2 (by decide)) tt fun x7 N7 t7=>
    psStrEq 0x100006 (st [lc]) x7 (st [R.sg]) tc false hneq [] fun x8 N8 t8=>
    .ui 0x1 (sJ w R F it q (accXs C) ((ca,tup2 [] tf cp tp)::(cb,tup2 g uf p' up)::(accLed C)) ep tn (Value.str (st []) tf) sv tc t1 (k+1) x1 (t5+1) (Value.str (st p') up) k (flOf (brk R.sg C k)) (iEnd (k+1) k (brk R.sg C k))) [0,3,6,9,12,15] [] (sJ_imm (fun p hp=>.tail _ (.tail _ hp)) (sJ_valid R F it q C ep tn sv tc _ _ hsg hC hn k _ _ _ _ _ hk')) (inJ I_) tt fun x9 N9 t9=>
    endQ D_ 0x4 (x9.1,t1,x9.2.1,t5+1,x9.2.2.1,x9.2.2.2) [0,3,6,9,12,15] [] [] fun s' O=>⟨(x9.1,t1,x9.2.1,t5+1,x9.2.2.1,x9.2.2.2),trivial,rfl,rfl,O.noGi⟩
  kernel_rfl
 | cons c0 fr=>
  have h0:¬c0=R.sg:=by rw [hc] at hh;simpa using hh
  have hneq2:((st [c0]).cps.toList==(st [R.sg]).cps.toList)=false:=by simp [st,h0]
  refine sK2_imm (sub2 lc1 lb1) ?_
  revert w
  refine vRowR [(ca,tup2 (c0::fr) tf cp tp),(cb,tup2 g uf p' up)] (fun w=>two_mem) ?_ ?_
  ·exact fun w s N0 t0 G_ D_ I_=>
    .u 0x10540005400 (sRangeNext it (Int.ofNat (k+1)) (Int.ofNat (k+1)) (-1) (Int.ofNat k) (Int.ofNat k)) [15] [] (sRangeNext_valid (by simp <;>omega) (by simp <;>lia) (by simp)) tt fun x1 N1 t1=>
    pspace 0x10000601806 R.sg tc hsg fun x2 N2 t2=>
    psGetInt 0x10000f000000000003c0003c000000003c0603000024090000000009000000000002406 (Value.ref 207) (some R.d) R.a (accXs C) ep (Int.ofNat (k+1)) x1 (Value.ref ca) _ ix.1 vx ix.2 [9] [] fun x3 N3 t3=>
    .u 0x1018060180080000800008020080000 (sLenS (c0::fr) tf (fr.length+1)) [] [] (sLenS_valid rfl hcf) tt fun x4 N4 t4=>
    .u 0x100006 (sGetS (c0::fr) tf 0 (t4+0) c0) [] [] (sGetS_valid 0 (firstIdx) rfl (by decide)) tt fun x5 N5 t5=>
    psStrEq 0x100006 (st [c0]) x5 (st [R.sg]) tc false hneq2 [] fun x6 N6 t6=>
    .u 0x10000603000024090000000009000000000002406 (sT "int.__sub__" [Value.int (Int.ofNat (k+1)) x1,Value.int (Int.ofNat 1) (t6+1)] (Value.int (Int.ofNat k))) [] [] (sSub1_valid _ _ _) tt fun x7 N7 t7=>
    psGetInt 0x40003c00000000000f0000f000000000f (Value.ref 207) (some R.d) R.a (accXs C) ep (Int.ofNat k) x7 (Value.ref cb) _ ix'.1 vx' ix'.2 [9] [] fun x8 N8 t8=>
    .u 0x1018060180080400804008060180400 (sLenS p' up (m+1)) [] [] (sLenS_valid hm hbp) tt fun x9 N9 t9=>
    .u 0x10000000006 (sGetS p' up (-1) (t9+1) lc) [] [] (sGetS_valid _ hlk hlk2 (by decide)) tt fun x10 N10 t10=>
    psStrEq 0x100006 (st [lc]) x10 (st [R.sg]) tc false hneq [] fun x11 N11 t11=>
    .ui 0x1 (sJ w R F it q (accXs C) ((ca,tup2 (c0::fr) tf cp tp)::(cb,tup2 g uf p' up)::(accLed C)) ep tn (Value.str (st (c0::fr)) tf) sv tc t1 (k+1) x1 (t8+1) (Value.str (st p') up) k (flOf (brk R.sg C k)) (iEnd (k+1) k (brk R.sg C k))) [0,3,6,9,12,15] [] (sJ_imm (fun p hp=>.tail _ (.tail _ hp)) (sJ_valid R F it q C ep tn sv tc _ _ hsg hC hn k _ _ _ _ _ hk')) (inJ I_) tt fun x12 N12 t12=>
    endQ D_ 0x4 (x12.1,t1,x12.2.1,t8+1,x12.2.2.1,x12.2.2.2) [0,3,6,9,12,15] [] [] fun s' O=>⟨(x12.1,t1,x12.2.1,t8+1,x12.2.2.1,x12.2.2.2),trivial,rfl,rfl,O.noGi⟩
  kernel_rfl
noncomputable def FmtR.on (R:FmtR) (s:Nat):FmtR:={R with sg:=s}
noncomputable def qq (q:Nat->Nat) (t:Nat):Nat->Nat
 | 0=>q 0
 | 1=>q 1
 | 2=>q 2
 | _=>t
def appFS (w:World) (R:FmtR) (q:Nat->Nat) (fv sv:Value):Obj:=frameO w [("self",q 0,.ref R.fx),("fws",q 1,fv),("string",q 2,sv)] 3
def strIt (sg t:Nat):Obj:={cls:=.type "str_ascii_iterator",data:=.fields #[.str (st [sg]) t,.int 0 0]}
def outC (w:World) (F si:Nat):Code:=loopC (atS (fnBody w 120) 1 [(0,0)]) (.ref si) (fnEnv w 120 F [])
section
variable (w:World) (R:FmtR) (F si:Nat) (q:Nat->Nat)
def outLed (xs:LV) (ep tn:Nat) (fv sv:Value) (ls:LV) (el:Nat) (tb1 tb2:ON):Led:=
 fmtLed w R xs ep tn ls el tb1 tb2++[(F,appFS w R q fv sv),(si,strIt R.sg (R.q 6))]
def sOB2 (xs:LV) (im:Led) (ep tn:Nat) (fv sv:Value) (ls:LV) (el:Nat) (tb1 tb2:ON) (i:Nat):Summ where
 code:=outC w F si
 need:=outLed w R F si q xs ep tn fv sv ls el tb1 tb2
 imm:=im
 Res:=Nat×Nat×Value×Nat×Nat×Nat×Value
 res:=fun x=>.ok .next
 upd:=fun x=>(fmtLed w R xs ep tn ls el tb1 tb2++[(F,appF2 w R (qq q x.1) x.2.2.1 sv x.2.1 x.2.2.2.1 i x.2.2.2.2.1 x.2.2.2.2.2.1 x.2.2.2.2.2.2)]).map (·.2)
 d:=45
 u:=90
 gone:=1
def sOB1 (xs:LV) (im:Led) (ep tn:Nat) (fv sv:Value) (ls:LV) (el:Nat) (tb1 tb2:ON) (i:Nat):Summ where
 code:=outC w F si
 need:=outLed w R F si q xs ep tn fv sv ls el tb1 tb2
 imm:=im
 Res:=Nat×Nat×Value×Nat×Nat
 res:=fun x=>.ok .next
 upd:=fun x=>(fmtLed w R xs ep tn ls el tb1 tb2++[(F,appF1 w R (qq q x.1) x.2.2.1 sv x.2.1 x.2.2.2.1 i x.2.2.2.2)]).map (·.2)
 d:=45
 u:=90
 gone:=1
def sOK (C:LC) (c:Chunk) (im:Led) (ep tn:Nat) (fv sv:Value) (ls:LV) (el:Nat) (tb1 tb2:ON):Summ where
 code:=outC w F si
 need:=outLed w R F si q (accXs C++[.ref c.at_]) ep tn fv sv ls el tb1 tb2
 imm:=c.led::im
 Res:=Nat×Nat
 res:=fun x=>.ok (.ret .none)
 upd:=fun x=>(fmtLed w R (accXs C++[.ref x.1]) x.2 tn ls el tb1 tb2).map (·.2)
 giveImm:=fun x=>[(x.1,tup2 c.f c.tf c.p c.tp)]
 giv:=true
 d:=60
 u:=120
 gone:=2
end
section
variable (w:World) (R:FmtR) (C:LC) (f:LN) (tf:Nat) (p:LN) (tp:Nat) (ep tn:Nat) (ls:LV) (el:Nat) (tb1 tb2:ON)
def sAppN:Summ where
 code:=.call (.ref 120) ⟨[.ref R.fx,.str (st f) tf,.str (st p) tp],[]⟩
 need:=fmtLed w R (accXs C) ep tn ls el tb1 tb2
 imm:=accLed C
 Res:=Nat×Nat×Nat
 res:=fun x=>.ok (.ret .none)
 upd:=fun x=>(fmtLed w R (accXs C++[Value.ref x.1]) x.2.1 tn ls el (some x.2.2) tb2).map (·.2)
 giveImm:=fun x=>[(x.1,tup2 f tf p tp)]
 giv:=true
 d:=90
 u:=180
def sAppB (i:Nat) (tx:LN):Summ where
 code:=.call (.ref 120) ⟨[.ref R.fx,.str (st f) tf,.str (st p) tp],[]⟩
 need:=fmtLed w R (accXs C) ep tn ls el tb1 tb2
 imm:=accLed C
 Res:=Nat×Nat×Nat×Nat×Nat×Nat×Nat
 res:=fun x=>.ok (.ret .none)
 upd:=fun x=>(fmtLed w R ((accXs C++[Value.ref x.1]).drop i) x.2.1 x.2.2.1 (ls++[.str (st tx) x.2.2.2.1]) x.2.2.2.2.1 (some x.2.2.2.2.2.1) (some x.2.2.2.2.2.2)).map (·.2)
 giveImm:=fun x=>[(x.1,tup2 f tf p tp)]
 giv:=true
 d:=90
 u:=180
end
theorem rsize_down (k:Nat):Builtin.Range.rangeSize (Int.ofNat k) 0 (-1)=Int.ofNat k:=by
 unfold Builtin.Range.rangeSize
 cases k with
 | zero=>decide
 | succ k=>
  have:((Int.ofNat (k+1))>0):=by simp
  simp only [show ¬((-1:Int)>0) from by decide,if_false,this,if_true]
  simp
theorem rsmall_down {k:Nat} (h:k<=100000):Builtin.Range.small (Int.ofNat k) 0 (-1)=true:=by
 unfold Builtin.Range.small
 rw [rsize_down]
 unfold Builtin.Range.rangeFitsLong
 simp;lia
theorem rsize_up (k:Nat):Builtin.Range.rangeSize 0 (Int.ofNat k) 1=Int.ofNat k:=by
 unfold Builtin.Range.rangeSize
 cases k with
 | zero=>decide
 | succ k=>
  have:((0:Int)<(Int.ofNat (k+1))):=by simp
  simp only [show ((1:Int)>0) from by decide,if_true,this]
  simp
theorem rsmall_up {k:Nat} (h:k<=100000):Builtin.Range.small 0 (Int.ofNat k) 1=true:=by
 unfold Builtin.Range.small
 rw [rsize_up]
 unfold Builtin.Range.rangeFitsLong
 simp;lia
theorem sSub1b_valid {w:World} {k t u:Nat}:Vd w (sT "int.__sub__" [.int (Int.ofNat (k+2)) t,.int (Int.ofNat 1) u] (.int (Int.ofNat (k+1)))):=sSub1_valid (k+1) t u
theorem brk_le (sg:Nat) (C:LC):∀k i,brk sg C k=some i->1<=i/\i<=k:=by
 intro k
 induction k with
 | zero=>intro i h;cases h
 | succ k ih=>
  intro i h
  rw [brk_succ] at h
  split at h
  ·cases h;lia
  ·have:=ih i h;lia
section
variable (w:World) (R:FmtR) (F si:Nat) (q:Nat->Nat) (C:LC) (ep tn:Nat) (fv sv:Value) (ls:LV) (el:Nat) (tb1 tb2:ON)
theorem sOB1_valid (k:Nat) (hs:R.sg=32\/R.sg=9) (hC:∀c∈C,PartOk R.sg c) (hn:C.length<=100000) (hl:C.length=k+2)
  (hh:(C[k+1]?.map fun c=>c.f.head?)=some (some R.sg)):Vd w (sOB1 w R F si q (accXs C) (accLed C) ep tn fv sv ls el tb1 tb2 (k+1)):=by
 revert w
 refine vRow ?_ ?_
 ·exact fun w s N0 t0 G_ D_ I_=>
   .u 0x40003c0c0000000000030000000003000000000300900006018000000001800000000000606c000001b06c1e0781e078000780007800 (sPart w R.a R.d (R.q 10) tn (accXs C) (k+2) ep) [6,9] [] (sPart_valid _ (by simp [accXs,hl])) tt fun x1 N1 t1=>
   .u 0x400 (sT "int.__sub__" [Value.int (Int.ofNat (k+2)) x1,Value.int (Int.ofNat 1) (t1+0)] (Value.int (Int.ofNat (k+1)))) [] [] (sSub1b_valid) tt fun x2 N2 t2=>
   .u 0x10200002008020000200002008000000000000000 (sRangeIter N2 (Int.ofNat (k+1)) 0 (-1) x2 t2 (t2+2) (Int.ofNat (k+1))) [2] [] (sRangeIter_valid (rsize_down _) (rsmall_down (by lia))) tt fun x3 N3 t3=>
   .ui 0x407 (sK1 w R F x3 (qq q (t0+1)) (accXs C) (accLed C) ep tn fv sv t0 k) [21,0,3,6,9,1] [] (sK1_valid _ R C hs hC hn (by lia) hh) (inJ I_) tt fun x4 N4 t4=>
   endQ D_ 0x4 (t0+1,t0,x4.1,x4.2.1,x4.2.2) [0,3,6,9,12,15,18,21] [] [] fun s' O=>⟨(_,_,x4.1,x4.2.1,x4.2.2),trivial,rfl,rfl,O.noGi⟩
 kernel_rfl
theorem sOB2_valid (k i:Nat) (hs:R.sg=32\/R.sg=9) (hC:∀c∈C,PartOk R.sg c) (hn:C.length<=100000) (hl:C.length=k+2)
  (hh:¬(C[k+1]?.map fun c=>c.f.head?)=some (some R.sg)) (hb:brk R.sg C k=some i):Vd w (sOB2 w R F si q (accXs C) (accLed C) ep tn fv sv ls el tb1 tb2 i):=by
 have hv:∀w a b c d e f g,Vd w (sK2 w R F a b (accXs C) (accLed C) c d e f g k .next i):=fun w a b c d e f g=>by
  have z:=sK2_valid w R F a b C c d e f g k hs hC hn (by lia) hh
  rw [hb] at z
  exact z
 revert w
 refine vRow ?_ ?_
 ·exact fun w s N0 t0 G_ D_ I_=>
   .u 0x40003c0c0000000000030000000003000000000300900006018000000001800000000000606c000001b06c1e0781e078000780007800 (sPart w R.a R.d (R.q 10) tn (accXs C) (k+2) ep) [6,9] [] (sPart_valid _ (by simp [accXs,hl])) tt fun x1 N1 t1=>
   .u 0x400 (sT "int.__sub__" [Value.int (Int.ofNat (k+2)) x1,Value.int (Int.ofNat 1) (t1+0)] (Value.int (Int.ofNat (k+1)))) [] [] (sSub1b_valid) tt fun x2 N2 t2=>
   .u 0x10200002008020000200002008000000000000000 (sRangeIter N2 (Int.ofNat (k+1)) 0 (-1) x2 t2 (t2+2) (Int.ofNat (k+1))) [2] [] (sRangeIter_valid (rsize_down _) (rsmall_down (by lia))) tt fun x3 N3 t3=>
   .ui 0x407 (sK2 w R F x3 (qq q (t0+1)) (accXs C) (accLed C) ep tn fv sv t0 k Flow.next i) [21,0,3,6,9,1] [] (hv _ _ _ _ _ _ _ _) (inJ I_) tt fun x4 N4 t4=>
   endQ D_ 0x4 (t0+1,t0,x4.1,x4.2.1,x4.2.2.1,x4.2.2.2.1,x4.2.2.2.2.1) [0,3,6,9,12,15,18,21] [] [] fun s' O=>⟨(_,_,x4.1,x4.2.1,x4.2.2.1,x4.2.2.2.1,x4.2.2.2.2.1),trivial,rfl,rfl,O.noGi⟩
 kernel_rfl
end
theorem sOK_valid (w:World) (R:FmtR) (F si:Nat) (q:Nat->Nat) (C:LC) (c:Chunk) (ep tn:Nat) (fv sv:Value) (ls:LV) (el:Nat) (tb1 tb2:ON) (hs:R.sg=32\/R.sg=9) (hC:∀c∈C,PartOk R.sg c) (hc:PartOk R.sg c) (hn:C.length<=50000)
  (hh:brk R.sg (C++[c]) C.length=none):Vd w (sOK w R F si q C c (accLed C) ep tn fv sv ls el tb1 tb2):=by
 have hx:=(accXs_app C c).symm
 have him:∀p∈accLed (C++[c]),p∈c.led::accLed C:=fun p hp=>by
  unfold accLed at hp
  rw [List.map_append] at hp
  rcases iA hp with h | h
  ·exact .tail _ h
  ·exact one_mem _ h
 have hC':∀d∈C++[c],PartOk R.sg d:=fun d hd=>by
  rcases iA hd with h | h
  ·exact hC d h
  ·rcases iC h with rfl | h
   ·exact hc
   ·cases h
 cases hl:C.length with
 | zero=>
  revert w
  refine vRowR [c.led] (fun w=>one_mem) ?_ ?_
  ·exact fun w s N0 t0 G_ D_ I_=>
    .u 0x40003c0c0000000000030000000003000000000300900006018000000001800000000000606c000001b06c1e0781e078000780007800 (sPart w R.a R.d (R.q 10) tn (accXs C++[Value.ref c.at_]) 1 ep) [6,9] [] (sPart_valid _ (by simp [accXs,hl])) tt fun x1 N1 t1=>
    .u 0x400 (sT "int.__sub__" [Value.int (Int.ofNat 1) x1,Value.int (Int.ofNat 1) (t1+0)] (Value.int (Int.ofNat 0))) [] [] (sSub1_valid _ _ _) tt fun x2 N2 t2=>
    .u 0x10200002008020000200002008000000000000000 (sRangeIter N2 (Int.ofNat 0) 0 (-1) x2 t2 (t2+2) (Int.ofNat 0)) [2] [] (sRangeIter_valid (rsize_down _) (rsmall_down (by decide))) tt fun x3 N3 t3=>
    .ui 0x407 (sK0 w R F x3 (qq q (t0+1)) (accXs C++[Value.ref c.at_]) (c.led::(accLed C)) ep tn fv sv t0) [21,0,3,6,9,1] [] (sK0_valid _ R) (inJ I_) tt fun x4 N4 t4=>
    .u 0x40003c0c0000000000030000000003000000000300900006018000000001800000000000606c0002c1e0781e078000780007800 (sCPopN w R.a R.d (R.q 10) tn (accXs C) c.at_ ep) [6,9] [] (sCPopN_valid _ (by simp [accXs];exact leT ‹_› rfl)) tt fun x5 N5 t5=>
    .use 0x40006c1b03c0c0000000000030000000003000000000300900006018000000001800000000000606c000000003c000300c000000000c00000030000000000000000000300900006018000000001800000000000606c1b06c1b06c0e0200880008020000200002008022000200800008000080200880008020000200002008002000020080200 (sPush w R.a R.d (R.q 10) tn (accXs C) x5 c.f c.tf c.p c.tp) [6,9] [] [] (sPush_valid _ (by simp [accXs];exact leT ‹_› rfl)) (noImm rfl) fun x6 N6 t6 _=>
    endQ D_ 0x4 (x6.1,x6.2) [0,3,6,9,12,15,18] [] [] fun s' O=>⟨(x6.1,x6.2),trivial,rfl,rfl,O⟩
  kernel_rfl
 | succ k=>
  have hk:(C++[c]).length=k+2:=by simp [hl]
  rw [hl,brk_succ] at hh
  have hh1:¬((C++[c])[k+1]?.map fun c=>c.f.head?)=some (some R.sg):=fun e=>by rw [if_pos e] at hh;cases hh
  rw [if_neg hh1] at hh
  have hv:∀w a b' c' d e f g,Vd w (sK2 w R F a b' (accXs C++[.ref c.at_]) (c.led::accLed C) c' d e f g k .cont (iEnd (k+1) k none)):=fun w a b' c' d e f g=>by
   have z:=sK2_valid w R F a b' (C++[c]) c' d e f g k hs hC' (by simp;exact leT ‹_› rfl) (by lia) hh1
   rw [hh] at z
   rw [hx]
   exact sK2_imm him z
  revert w
  refine vRowR [c.led] (fun w=>one_mem) ?_ ?_
  ·exact fun w s N0 t0 G_ D_ I_=>
    .u 0x40003c0c0000000000030000000003000000000300900006018000000001800000000000606c000001b06c1e0781e078000780007800 (sPart w R.a R.d (R.q 10) tn (accXs C++[Value.ref c.at_]) (k+2) ep) [6,9] [] (sPart_valid _ (by simp [accXs,hl])) tt fun x1 N1 t1=>
    .u 0x400 (sT "int.__sub__" [Value.int (Int.ofNat (k+2)) x1,Value.int (Int.ofNat 1) (t1+0)] (Value.int (Int.ofNat (k+1)))) [] [] (sSub1b_valid) tt fun x2 N2 t2=>
    .u 0x10200002008020000200002008000000000000000 (sRangeIter N2 (Int.ofNat (k+1)) 0 (-1) x2 t2 (t2+2) (Int.ofNat (k+1))) [2] [] (sRangeIter_valid (rsize_down _) (rsmall_down (by lia))) tt fun x3 N3 t3=>
    .ui 0x407 (sK2 w R F x3 (qq q (t0+1)) (accXs C++[Value.ref c.at_]) (c.led::(accLed C)) ep tn fv sv t0 k Flow.cont (iEnd (k+1) k none)) [21,0,3,6,9,1] [] (hv _ _ _ _ _ _ _ _) (inJ I_) tt fun x4 N4 t4=>
    .u 0x40003c0c0000000000030000000003000000000300900006018000000001800000000000606c0002c1e0781e078000780007800 (sCPopN w R.a R.d (R.q 10) tn (accXs C) c.at_ ep) [6,9] [] (sCPopN_valid _ (by simp [accXs];exact leT ‹_› rfl)) tt fun x5 N5 t5=>
    .use 0x40006c1b03c0c0000000000030000000003000000000300900006018000000001800000000000606c000000003c000300c000000000c00000030000000000000000000300900006018000000001800000000000606c1b06c1b06c0e0200880008020000200002008022000200800008000080200880008020000200002008002000020080200 (sPush w R.a R.d (R.q 10) tn (accXs C) x5 c.f c.tf c.p c.tp) [6,9] [] [] (sPush_valid _ (by simp [accXs];exact leT ‹_› rfl)) (noImm rfl) fun x6 N6 t6 _=>
    endQ D_ 0x4 (x6.1,x6.2) [0,3,6,9,12,15,18] [] [] fun s' O=>⟨(x6.1,x6.2),trivial,rfl,rfl,O⟩
  kernel_rfl
theorem min2C {i c:Nat} (h:c<=40000):min i (c+1)+(c+1-i)<=100000:=leT (Nat.add_le_add (Nat.le_trans (Nat.min_le_right _ _) (Nat.succ_le_succ h)) (Nat.le_trans (Nat.sub_le _ _) (Nat.succ_le_succ h))) rfl
theorem sGt_valid {w:World} {a b:Int} {t u:Nat} {r:Bool} (h:decide (a>b)=r):Vd w (sV "int.__gt__" [.int a t,.int b u] (.bool r)):=
 sV_valid PySem.F.slot_int_gt.plain PySem.F.entry_int_gt (gives_int_gt a b t u) (by rw [h])
noncomputable def ck (a:Nat) (f:LN) (tf:Nat) (p:LN) (tp:Nat):Chunk:=⟨a,f,tf,p,tp⟩
theorem brk_congr (sg:Nat) (C D:LC) (h:C.map (·.f)=D.map (·.f)):∀k,brk sg C k=brk sg D k:=by
 intro k
 induction k with
 | zero=>rfl
 | succ k ih=>
  have e:(C[k+1]?.map fun c=>c.f.head?)=(D[k+1]?.map fun c=>c.f.head?):=by
   have z:(C.map (·.f))[k+1]? =(D.map (·.f))[k+1]? :=by rw [h]
   rw [List.getElem?_map,List.getElem?_map] at z
   have q:∀o:Option Chunk,(o.map fun c=>c.f.head?)=(o.map (·.f)).map List.head?:=fun o=>by cases o <;>rfl
   rw [q,q,z]
  rw [brk_succ,brk_succ,e,ih]
theorem Out.one {s s':Shared} {mods:LN} {lv ln li:Led} (O:Out s s' mods lv ln li) {x:Nat×Obj} (h:x∈li):Out s s' mods lv ln [x]:=⟨O.keep,O.gv,O.nw,fun p hp=>(by
 rcases iC hp with rfl | hp
 ·exact O.gi _ h
 ·cases hp),O.nodup,O.size,O.os,O.bare⟩
theorem accLed_take {C:LC} {i:Nat}:∀p∈accLed (C.take i),p∈accLed C:=fun p hp=>by
 unfold accLed at hp ⊢
 obtain ⟨c,hc,rfl⟩:=List.mem_map.mp hp
 exact List.mem_map_of_mem (List.mem_of_mem_take hc)
theorem accLen_takeLe (C:LC) (i:Nat):accLen (C.take i)<=accLen C:=accLen_take C i
noncomputable def sgB:Bool->Nat
 | true=>32
 | false=>9
theorem sg_main {R:FmtR} {P:Prop} (hs:R.sg=32\/R.sg=9) (h:∀sb,R.on (sgB sb)=R->P):P:=by
 rcases hs with e | e
 ·exact h true (by show {R with sg:=32}=R;rw [←e])
 ·exact h false (by show {R with sg:=9}=R;rw [←e])
section
variable (w:World) (R:FmtR) (C:LC) (f:LN) (tf:Nat) (p:LN) (tp:Nat) (ep tn:Nat) (ls:LV) (el:Nat) (tb1 tb2:ON)
theorem sAppN_valid (hs:R.sg=32\/R.sg=9) (hC:∀c∈C,PartOk R.sg c) (hc:PartOk R.sg (ck 0 f tf p tp)) (hn:C.length<=40000) (hl:accLen C<=40000) (hfp:f.length+p.length<=40000)
  (hh:Int.ofNat (accLen C+(f.length+p.length))<=R.wd\/brk R.sg (C++[ck 0 f tf p tp]) C.length=none):Vd w (sAppN w R C f tf p tp ep tn ls el tb1 tb2):=by
 have main:∀sb:Bool,R.on (sgB sb)=R->∀w,Vd w (sAppN w (R.on (sgB sb)) C f tf p tp ep tn ls el tb1 tb2):=by
  by_cases hg:Int.ofNat (accLen C+(f.length+p.length))>R.wd
  ·have hb:∀a,brk R.sg (C++[ck a f tf p tp]) C.length=none:=fun a=>by
    rw [brk_congr R.sg (C++[ck a f tf p tp]) (C++[ck 0 f tf p tp]) (by simp [ck])]
    exact hh.resolve_left (by lia)
   have hv:∀(R':FmtR) (_:R'=R) (w:World) (F si:Nat) (q:Nat->Nat) (a ep tn:Nat) (fv sv:Value) (ls:LV) (el:Nat) (tb1 tb2:ON),Vd w (sOK w R' F si q C (ck a f tf p tp) (accLed C) ep tn fv sv ls el tb1 tb2):=fun R' e=>by
    subst e
    exact fun w F si q a ep tn fv sv ls el tb1 tb2=>sOK_valid w R' F si q C (ck a f tf p tp) ep tn fv sv ls el tb1 tb2 hs hC hc (by lia) (hb _)
   refine vFamA _ bools [] (fun _=>roNil) ?_ ?_
   ·refine fun sb hR w s N0 t0 G_ D_ I_=>
     .use 0x4000200803c0c00000000000300000000030000000003009000060180000000018000000000006020000000802008020080200000002 (sPush w R.a R.d (R.q 10) tn (accXs C) ep f tf p tp) [6,9] [2] [] (sPush_valid _ (by simp [accXs];exact leT ‹_› rfl)) (noImm rfl) fun x1 N1 t1 _=>
     .ui 0x4000240001806000000000600000000000180700000 (sLenX w R.a R.d (R.q 10) tn (C++[Chunk.mk x1.fst f tf p tp]) (accXs C++[Value.ref x1.fst]) (accLen C+(f.length+p.length)) x1.snd tb1) [6,9,15] [1] (sLenX_valid (accXs_app C (ck x1.1 f tf p tp)).symm (by rw [accLen_app];show accLen C+(f.length+p.length)<=_;exact leT (Nat.add_le_add ‹accLen C<=40000› ‹f.length+p.length<=40000›) rfl) (accLen_app C _)) (inW D_ (immApp (fun p hp=>hp) (.head _))) tt fun x2 N2 t2=>
     .u 0x40002400018060000000006000000000001807 (sV "int.__gt__" [Value.int (Int.ofNat (accLen C+(f.length+p.length))) x2.fst,Value.int R.wd (R.q 9)] (Value.bool true)) [] [1] (sGt_valid (decide_eq_true hg)) tt fun x3 N3 t3=>
     .use 0x4080000002400018060000000006000000000001807 (sOK w (R.on (sgB sb)) N0 N3 (fun x=>match x with | 0=>t0 | 1=>t0+1 | x=>t0+2) C (Chunk.mk x1.fst f tf p tp) (accLed C) x1.snd tn (Value.str (st f) tf) (Value.str (st p) tp) ls el (some x2.snd) tb2) [0,3,6,9,12,15,18,1,2] [] [] (hv _ hR _ _ _ _ _ _ _ _ _ _ _ _ _) (inW D_ (fun p hp=>by
     rcases iC hp with rfl | hp
     ·exact .inr (.head _)
     ·exact .inl hp)) fun x4 N4 t4 _=>
     endQ D_ 0x4 (x4.1,x4.2,x2.2) [0,3,6,9,12,15,18] [] [] fun s' O=>⟨(x4.1,x4.2,x2.2),trivial,rfl,rfl,?_⟩
    exact O.one (iL (iR (.head _)))
   kernel_rfl
  ·refine vFamA _ bools [] (fun _=>roNil) ?_ ?_
   ·refine fun sb hR w s N0 t0 G_ D_ I_=>
     .use 0x4000200803c0c00000000000300000000030000000003009000060180000000018000000000006020000000802008020080200000002 (sPush w R.a R.d (R.q 10) tn (accXs C) ep f tf p tp) [6,9] [2] [] (sPush_valid _ (by simp [accXs];exact leT ‹_› rfl)) (noImm rfl) fun x1 N1 t1 _=>
     .ui 0x4000240001806000000000600000000000180700000 (sLenX w R.a R.d (R.q 10) tn (C++[Chunk.mk x1.fst f tf p tp]) (accXs C++[Value.ref x1.fst]) (accLen C+(f.length+p.length)) x1.snd tb1) [6,9,15] [1] (sLenX_valid (accXs_app C (ck x1.1 f tf p tp)).symm (by rw [accLen_app];show accLen C+(f.length+p.length)<=_;exact leT (Nat.add_le_add ‹accLen C<=40000› ‹f.length+p.length<=40000›) rfl) (accLen_app C _)) (inW D_ (immApp (fun p hp=>hp) (.head _))) tt fun x2 N2 t2=>
     .u 0x40002400018060000000006000000000001807 (sV "int.__gt__" [Value.int (Int.ofNat (accLen C+(f.length+p.length))) x2.fst,Value.int R.wd (R.q 9)] (Value.bool false)) [] [] (sGt_valid (decide_eq_false hg)) tt fun x3 N3 t3=>
     endQ D_ 0x4 (x1.1,x1.2,x2.2) [0,3,6,9,12,15,18] [] [] fun s' O=>⟨(x1.1,x1.2,x2.2),trivial,rfl,rfl,?_⟩
    exact O.one (iL (iR (.head _)))
   kernel_rfl
 refine sg_main hs fun sb e=>?_
 have z:=main sb e w
 rw [e] at z
 exact z
theorem sAppB_valid (i:Nat) (hs:R.sg=32\/R.sg=9) (hC:∀c∈C,PartOk R.sg c) (hc:PartOk R.sg (ck 0 f tf p tp)) (hn:C.length<=40000) (hl:accLen C<=40000) (hfp:f.length+p.length<=40000) (hls:ls.length<=50000)
  (hg:Int.ofNat (accLen C+(f.length+p.length))>R.wd) (hb:brk R.sg (C++[ck 0 f tf p tp]) C.length=some i):Vd w (sAppB w R C f tf p tp ep tn ls el tb1 tb2 i (accTx (C.take i))):=by
 have main:∀sb:Bool,R.on (sgB sb)=R->∀w,Vd w (sAppB w (R.on (sgB sb)) C f tf p tp ep tn ls el tb1 tb2 i (accTx (C.take i))):=by
  have hi:=brk_le _ _ _ _ hb
  have hCq:∀a,∀d∈C++[ck a f tf p tp],PartOk R.sg d:=fun a d hd=>by
   rcases iA hd with h | h
   ·exact hC d h
   ·rcases iC h with rfl | h
    ·exact hc
    ·cases h
  have hb':∀a,brk R.sg (C++[ck a f tf p tp]) C.length=some i:=fun a=>by
   rw [brk_congr R.sg (C++[ck a f tf p tp]) (C++[ck 0 f tf p tp]) (by simp [ck])];exact hb
  have hti:∀{a:Nat},(C++[(⟨a,f,tf,p,tp⟩:Chunk)]).take i=C.take i:=fun {a}=>List.take_append_of_le_length hi.2
  obtain ⟨k,hk⟩:∃k,C.length=k+1:=⟨C.length-1,(Nat.sub_add_cancel (Nat.le_trans hi.1 hi.2)).symm⟩
  have hlen:∀a,(C++[ck a f tf p tp]).length=k+2:=fun a=>by simp [hk]
  by_cases h1:((C++[ck 0 f tf p tp])[k+1]?.map fun c=>c.f.head?)=some (some R.sg)
  ·have h1q:∀a,((C++[ck a f tf p tp])[k+1]?.map fun c=>c.f.head?)=some (some R.sg):=fun a=>by
    rw [←h1];simp [←hk,ck]
   have e:i=k+1:=by rw [hk,brk_succ,if_pos h1] at hb;cases hb;rfl
   refine vFamA _ bools [] (fun _=>roNil) ?_ ?_
   ·refine fun sb hR w s N0 t0 G_ D_ I_=>
     .use 0x4000200803c0c00000000000300000000030000000003009000060180000000018000000000006020000000802008020080200000002 (sPush w R.a R.d (R.q 10) tn (accXs C) ep f tf p tp) [6,9] [2] [] (sPush_valid _ (by simp [accXs];exact leT ‹_› rfl)) (noImm rfl) fun x1 N1 t1 _=>
     .ui 0x4000240001806000000000600000000000180700000 (sLenX w R.a R.d (R.q 10) tn (C++[Chunk.mk x1.fst f tf p tp]) (accXs C++[Value.ref x1.fst]) (accLen C+(f.length+p.length)) x1.snd tb1) [6,9,15] [1] (sLenX_valid (accXs_app C (ck x1.1 f tf p tp)).symm (by rw [accLen_app];show accLen C+(f.length+p.length)<=_;exact leT (Nat.add_le_add ‹accLen C<=40000› ‹f.length+p.length<=40000›) rfl) (accLen_app C _)) (inW D_ (immApp (fun p hp=>hp) (.head _))) tt fun x2 N2 t2=>
     .u 0x40002400018060000000006000000000001807 (sV "int.__gt__" [Value.int (Int.ofNat (accLen C+(f.length+p.length))) x2.fst,Value.int R.wd (R.q 9)] (Value.bool true)) [] [1] (sGt_valid (decide_eq_true hg)) tt fun x3 N3 t3=>
     have him:∀pr∈accLed (C++[ck x1.1 f tf p tp]),pr∈accLed C\/pr∈[(x1.1,tup [.str (st f) tf,.str (st p) tp])]:=immApp (fun p hp=>hp) (.head _)
     .ui 0x4080000002400018060000000006000000000001807 (sOB1 w (R.on (sgB sb)) N0 N3 (fun x=>match x with | 0=>t0 | 1=>t0+1 | x=>t0+2) (accXs C++[Value.ref x1.fst]) (accLed (C++[Chunk.mk x1.fst f tf p tp])) x1.snd tn (Value.str (st f) tf) (Value.str (st p) tp) ls el (some x2.snd) tb2 i) [0,3,6,9,12,15,18,1,2] [1] (by have z:=sOB1_valid w R N0 N3 (fun | 0=>t0 | 1=>t0+1 | _=>t0+2) (C++[ck x1.1 f tf p tp]) x1.2 tn (.str (st f) tf) (.str (st p) tp) ls el (some x2.2) tb2 k hs (hCq _) (by simp;exact leT ‹_› rfl) (hlen _) (h1q _);rw [accXs_app] at z;rw [e,hR];exact z) (inW D_ him) tt fun x4 N4 t4=>
     .u 0x40001c0f03000000000000c000000000c000000000c02400018060000000006000000000001807 (sPopFrom w R.a R.d (R.q 10) tn (accXs C++[Value.ref x1.fst]) x1.snd i x4.snd.snd.snd.snd) [6,9] [1] (sPopFrom_valid _ (by simp [accXs];exact Nat.le_succ_of_le hi.2) (by simp [accXs];exact leT ‹_› rfl)) tt fun x5 N5 t5=>
     .ui 0x1024000180600000000060000000000018070000004812048120240001806000000000600000000000180701c07 (sStrX w R.a R.d (R.q 10) tn (List.take i (C++[Chunk.mk x1.fst f tf p tp])) (List.take i (accXs C++[Value.ref x1.fst])) (accTx (C.take i)) x5.snd tb2) [6,9,18] [1,4] (sStrX_valid (by rw [show accXs C++[Value.ref x1.1]=accXs (C++[ck x1.1 f tf p tp]) from (accXs_app C (ck x1.1 f tf p tp)).symm];unfold accXs;exact (List.map_take).symm) (by rw [hti];have:=accLen_takeLe C i;exact leX ‹_› ‹_› rfl) (by simp;exact Nat.le_trans (Nat.min_le_right _ _) (leT (Nat.succ_le_succ ‹C.length<=40000›) rfl)) (by rw [hti])) (inW D_ (fun pr hp=>him pr (accLed_take pr hp))) tt fun x6 N6 t6=>
     psAppend 0x104800 (Value.type "list") none R.L ls el (Value.str (st (accTx (C.take i))) x6.fst) (by exact leT ‹_› rfl) [12] [1,4] fun x7 N7 t7=>
     .u 0x40001c0f03000000000000c000000000c000000000c02400018060000000006000000000001807 (sReset1 w R.a R.d (R.q 10) tn (List.take i (accXs C++[Value.ref x1.fst])) x5.snd x5.fst (List.drop i (accXs C++[Value.ref x1.fst])) 0) [6,9,4] [] (sReset1_valid _ (by simp [accXs];exact min2C ‹C.length<=40000›)) tt fun x8 N8 t8=>
     endQ D_ 0x4 (x1.1,x8.1,x8.2,x6.1,x7,x2.2,x6.2) [0,3,6,9,12,15,18] [] [] fun s' O=>⟨(x1.1,x8.1,x8.2,x6.1,x7,x2.2,x6.2),trivial,rfl,rfl,?_⟩
    exact O.one (iL (iR (.head _)))
   kernel_rfl
  ·have h1q:∀a,¬((C++[ck a f tf p tp])[k+1]?.map fun c=>c.f.head?)=some (some R.sg):=fun a e=>by
    refine h1 ?_;rw [←e];simp [←hk,ck]
   have hb2:∀a,brk R.sg (C++[ck a f tf p tp]) k=some i:=fun a=>by
    have z:=hb' a
    rw [hk,brk_succ,if_neg (h1q a)] at z;exact z
   refine vFamA _ bools [] (fun _=>roNil) ?_ ?_
   ·refine fun sb hR w s N0 t0 G_ D_ I_=>
     .use 0x4000200803c0c00000000000300000000030000000003009000060180000000018000000000006020000000802008020080200000002 (sPush w R.a R.d (R.q 10) tn (accXs C) ep f tf p tp) [6,9] [2] [] (sPush_valid _ (by simp [accXs];exact leT ‹_› rfl)) (noImm rfl) fun x1 N1 t1 _=>
     .ui 0x4000240001806000000000600000000000180700000 (sLenX w R.a R.d (R.q 10) tn (C++[Chunk.mk x1.fst f tf p tp]) (accXs C++[Value.ref x1.fst]) (accLen C+(f.length+p.length)) x1.snd tb1) [6,9,15] [1] (sLenX_valid (accXs_app C (ck x1.1 f tf p tp)).symm (by rw [accLen_app];show accLen C+(f.length+p.length)<=_;exact leT (Nat.add_le_add ‹accLen C<=40000› ‹f.length+p.length<=40000›) rfl) (accLen_app C _)) (inW D_ (immApp (fun p hp=>hp) (.head _))) tt fun x2 N2 t2=>
     .u 0x40002400018060000000006000000000001807 (sV "int.__gt__" [Value.int (Int.ofNat (accLen C+(f.length+p.length))) x2.fst,Value.int R.wd (R.q 9)] (Value.bool true)) [] [1] (sGt_valid (decide_eq_true hg)) tt fun x3 N3 t3=>
     have him:∀pr∈accLed (C++[ck x1.1 f tf p tp]),pr∈accLed C\/pr∈[(x1.1,tup [.str (st f) tf,.str (st p) tp])]:=immApp (fun p hp=>hp) (.head _)
     .ui 0x4080000002400018060000000006000000000001807 (sOB2 w (R.on (sgB sb)) N0 N3 (fun x=>match x with | 0=>t0 | 1=>t0+1 | x=>t0+2) (accXs C++[Value.ref x1.fst]) (accLed (C++[Chunk.mk x1.fst f tf p tp])) x1.snd tn (Value.str (st f) tf) (Value.str (st p) tp) ls el (some x2.snd) tb2 i) [0,3,6,9,12,15,18,1,2] [1] (by have z:=sOB2_valid w R N0 N3 (fun | 0=>t0 | 1=>t0+1 | _=>t0+2) (C++[ck x1.1 f tf p tp]) x1.2 tn (.str (st f) tf) (.str (st p) tp) ls el (some x2.2) tb2 k i hs (hCq _) (by simp;exact leT ‹_› rfl) (hlen _) (h1q _) (hb2 _);rw [accXs_app] at z;rw [hR];exact z) (inW D_ him) tt fun x4 N4 t4=>
     .u 0x40001c0f03000000000000c000000000c000000000c02400018060000000006000000000001807 (sPopFrom w R.a R.d (R.q 10) tn (accXs C++[Value.ref x1.fst]) x1.snd i x4.snd.snd.snd.snd.fst) [6,9] [1] (sPopFrom_valid _ (by simp [accXs];exact Nat.le_succ_of_le hi.2) (by simp [accXs];exact leT ‹_› rfl)) tt fun x5 N5 t5=>
     .ui 0x1024000180600000000060000000000018070000004812048120240001806000000000600000000000180701c07 (sStrX w R.a R.d (R.q 10) tn (List.take i (C++[Chunk.mk x1.fst f tf p tp])) (List.take i (accXs C++[Value.ref x1.fst])) (accTx (C.take i)) x5.snd tb2) [6,9,18] [1,4] (sStrX_valid (by rw [show accXs C++[Value.ref x1.1]=accXs (C++[ck x1.1 f tf p tp]) from (accXs_app C (ck x1.1 f tf p tp)).symm];unfold accXs;exact (List.map_take).symm) (by rw [hti];have:=accLen_takeLe C i;exact leX ‹_› ‹_› rfl) (by simp;exact Nat.le_trans (Nat.min_le_right _ _) (leT (Nat.succ_le_succ ‹C.length<=40000›) rfl)) (by rw [hti])) (inW D_ (fun pr hp=>him pr (accLed_take pr hp))) tt fun x6 N6 t6=>
     psAppend 0x104800 (Value.type "list") none R.L ls el (Value.str (st (accTx (C.take i))) x6.fst) (by exact leT ‹_› rfl) [12] [1,4] fun x7 N7 t7=>
     .u 0x40001c0f03000000000000c000000000c000000000c02400018060000000006000000000001807 (sReset1 w R.a R.d (R.q 10) tn (List.take i (accXs C++[Value.ref x1.fst])) x5.snd x5.fst (List.drop i (accXs C++[Value.ref x1.fst])) 0) [6,9,4] [] (sReset1_valid _ (by simp [accXs];exact min2C ‹C.length<=40000›)) tt fun x8 N8 t8=>
     endQ D_ 0x4 (x1.1,x8.1,x8.2,x6.1,x7,x2.2,x6.2) [0,3,6,9,12,15,18] [] [] fun s' O=>⟨(x1.1,x8.1,x8.2,x6.1,x7,x2.2,x6.2),trivial,rfl,rfl,?_⟩
    exact O.one (iL (iR (.head _)))
   kernel_rfl
 refine sg_main hs fun sb e=>?_
 have z:=main sb e w
 rw [e] at z
 exact z
end
noncomputable def reCode:Array Nat:= #[14,4,0,1,4294967295,17,0,24,11,1,4294967295,13,6,16,32,16,9,0,1,17,1,1]
noncomputable def blank (c:Nat):Bool:=c==32|| c==9
theorem inSet_blank (c:Nat) (seen:Sre.Seen):∃seen',Sre.inSet reCode c reCode.size 13 true seen=.ok (blank c,seen'):=by
 by_cases h1:c=32
 ·subst h1;exact ⟨_,rfl⟩
 ·by_cases h2:c=9
  ·subst h2;exact ⟨_,rfl⟩
  ·have e:blank c=false:=by simp [blank,h1,h2]
   rw [e]
   have n1:(c==32)=false:=by simp [h1]
   have n2:(c==9)=false:=by simp [h2]
   show ∃seen',(if (c==32)=true then _ else if (c==9)=true then _ else _)=_
   rw [n1,n2]
   exact ⟨_,rfl⟩
theorem accepts_blank (c:Nat) (seen:Sre.Seen):∃seen',Sre.accepts reCode 11 c seen=.ok (blank c,seen'):=inSet_blank c seen
noncomputable def runLen (T:Array Nat):Nat->Nat->Nat
 | 0,_=>0
 | n+1,p=>if blank (T.getD p 0) then runLen T n (p+1)+1 else 0
section
variable (T:Array Nat)
theorem run_blank:∀(n p f:Nat) (seen:Sre.Seen),∃seen',Sre.run reCode T 11 n p f seen=.ok (f+runLen T n p,seen'):=by
 intro n
 induction n with
 | zero=>intro p f seen;exact ⟨seen,rfl⟩
 | succ n ih=>
  intro p f seen
  obtain ⟨s1,h1⟩:=accepts_blank (T.getD p 0) seen
  unfold Sre.run runLen
  rw [h1]
  cases hb:blank (T.getD p 0) with
  | true=>
   obtain ⟨s2,h2⟩:=ih (p+1) (f+1) s1
   refine ⟨s2,?_⟩
   show Sre.run reCode T 11 n (p+1) (f+1) s1=_
   rw [h2];simp;lia
  | false=>exact ⟨s1,rfl⟩
def mk0 (s:Nat) (b:Bool) (a1 a2:ON) (seen:Sre.Seen):Sre.M:=
 {code:=reCode,text:=T,lim:=T.size,start:=s,lastStart:=T.size,pc:=5,pos:=s,handed:=s,outermost:=b,marks:= #[a1,a2],lastmark:= -1,lastindex:= -1,
  frames:=[{wait:=.nextStart,pc:=5,pos:=s,outermost:=b}],weight:=1,seen:=seen}
def mk1 (s:Nat) (b:Bool) (a2:ON) (seen:Sre.Seen):Sre.M:=
 {code:=reCode,text:=T,lim:=T.size,start:=s,lastStart:=T.size,pc:=7,pos:=s,handed:=s,outermost:=b,marks:= #[some s,a2],lastmark:=0,lastindex:= -1,
  frames:=[{wait:=.nextStart,pc:=5,pos:=s,outermost:=b}],weight:=1,seen:=seen}
theorem step0 (s:Nat) (b:Bool) (a1 a2:ON) (seen:Sre.Seen):∃seen',(mk0 T s b a1 a2 seen).step=mk1 T s b a2 seen':=⟨_,rfl⟩
def mk1f (s:Nat) (b:Bool) (a2:ON) (seen:Sre.Seen):Sre.M:=
 {mk1 T s b a2 seen with answer:=some false}
theorem step1_end (s:Nat) (b:Bool) (a2:ON) (seen:Sre.Seen) (h:T.size<=s):∃seen',(mk1 T s b a2 seen).step=mk1f T s b a2 seen':=by
 refine ⟨seen.add 24,?_⟩
 show (if ((1:Nat):Int)>(T.size:Int)-(s:Int) then _ else _)=_
 rw [if_pos (by lia)]
 rfl
def mk2 (s:Nat) (n:Nat) (b:Bool) (a2:ON) (seen:Sre.Seen):Sre.M:=
 {code:=reCode,text:=T,lim:=T.size,start:=s,lastStart:=T.size,pc:=19,pos:=s+n,handed:=s+n,outermost:=b,marks:= #[some s,a2],lastmark:=0,lastindex:= -1,
  frames:=[{wait:=.giveBack,pc:=7,pos:=s+n,outermost:=b,count:=((n:Nat):Int),kept:={lastmark:=0,lastindex:= -1}},{wait:=.nextStart,pc:=5,pos:=s,outermost:=b}],weight:=2,seen:=seen}
theorem step1 (s:Nat) (b:Bool) (a2:ON) (seen:Sre.Seen) (n:Nat) (hn:runLen T (min 4294967295 (T.size-s)) s=n) (h:s<T.size):∃seen',(mk1 T s b a2 seen).step=if n<1 then mk1f T s b a2 seen' else mk2 T s n b a2 seen':=by
 have hr:((T.size:Int)-(s:Int)).toNat=T.size-s:=by lia
 obtain ⟨seen',e⟩:=run_blank T (min 4294967295 (T.size-s)) s 0 ((seen.add 24).add 13)
 refine ⟨seen',?_⟩
 show (if ((1:Nat):Int)>(T.size:Int)-(s:Int) then _ else match Sre.run reCode T 11 (min 4294967295 ((T.size:Int)-(s:Int)).toNat) s 0 ((seen.add 24).add 13) with | .error why=>_ | .ok (n,seen)=>_)=_
 rw [if_neg (by lia),hr,e,hn]
 show (if 0+n<1 then _ else _)=_
 rw [Nat.zero_add]
 split <;>rfl
def mk3 (s:Nat) (n:Nat) (b:Bool) (seen:Sre.Seen):Sre.M:=
 {code:=reCode,text:=T,lim:=T.size,start:=s,lastStart:=T.size,pc:=21,pos:=s+n,handed:=s+n,outermost:=b,marks:= #[some s,some (s+n)],lastmark:=1,lastindex:=1,
  frames:=[{wait:=.giveBack,pc:=7,pos:=s+n,outermost:=b,count:=((n:Nat):Int),kept:={lastmark:=0,lastindex:= -1}},{wait:=.nextStart,pc:=5,pos:=s,outermost:=b}],weight:=2,seen:=seen}
theorem step2 (s:Nat) (n:Nat) (b:Bool) (a2:ON) (seen:Sre.Seen):∃seen',(mk2 T s n b a2 seen).step=mk3 T s n b seen':=⟨seen.add 17,by kernel_rfl⟩
theorem step3 (s:Nat) (n:Nat) (b:Bool) (seen:Sre.Seen):∃seen',(mk3 T s n b seen).step={mk3 T s n b seen' with answer:=some true}:=⟨seen.add 1,by cases b <;>rfl⟩
theorem step4 (s:Nat) (n:Nat) (b:Bool) (seen:Sre.Seen):∃m,(({mk3 T s n b seen with answer:=some true}:Sre.M)).step.step.step=m/\m.outcome=some .matched/\m.start=s/\m.handed=s+n/\m.marks= #[some s,some (s+n)]/\m.lastmark=1:=⟨_,rfl,rfl,rfl,rfl,rfl,rfl⟩
theorem stepF (s:Nat) (b:Bool) (a2:ON) (seen:Sre.Seen) (h:s<T.size):(mk1f T s b a2 seen).step=mk0 T (s+1) false (some s) a2 seen:=by
 show (if s<T.size then _ else _)=_
 rw [if_pos h]
 rfl
theorem stepF_end (s:Nat) (b:Bool) (a2:ON) (seen:Sre.Seen) (h:T.size<=s):∃m,(mk1f T s b a2 seen).step.step=m/\m.outcome=some .failed:=by
 refine ⟨_,rfl,?_⟩
 show (Sre.M.step (if s<T.size then _ else _)).outcome=_
 rw [if_neg (by lia)]
 rfl
end
noncomputable def stepN:Nat->Sre.M->Sre.M
 | 0,m=>m
 | n+1,m=>stepN n m.step
theorem stepN_add (a b:Nat) (m:Sre.M):stepN (a+b) m=stepN b (stepN a m):=by
 induction a generalizing m with
 | zero=>rw [Nat.zero_add];rfl
 | succ a ih=>rw [Nat.succ_add];exact ih _
theorem step_done {m:Sre.M} (h:m.outcome.isSome=true):m.step=m:=by
 unfold Sre.M.step;rw [if_pos h]
theorem stepN_done {m:Sre.M} (h:m.outcome.isSome=true):∀n,stepN n m=m
 | 0=>rfl
 | n+1=>by show stepN n m.step=m;rw [step_done h];exact stepN_done h n
theorem runFor_stepN:∀n (m:Sre.M),m.runFor n=stepN n m
 | 0,_=>rfl
 | n+1,m=>by
  unfold Sre.M.runFor stepN
  split
  ·rename_i h;rw [step_done h];exact (stepN_done h n).symm
  ·exact runFor_stepN n m.step
theorem runLen_zero {T:Array Nat} {p n:Nat} (h:blank (T.getD p 0)=false):runLen T n p=0:=by
 cases n with
 | zero=>rfl
 | succ n=>unfold runLen;rw [h];rfl
theorem add3 {N k c:Nat} (h:N<=3*k+c):3+N<=3*(k+1)+c:=by lia
section
variable (T:Array Nat)
theorem found (n:Nat) (hn:1<=n):∀(k s:Nat) (b:Bool) (a1 a2:ON) (seen:Sre.Seen),(∀i,i<k->blank (T.getD (s+i) 0)=false)->s+k<T.size->runLen T (min 4294967295 (T.size-(s+k))) (s+k)=n->
  ∃N m,N<=3*k+7/\stepN N (mk0 T s b a1 a2 seen)=m/\m.outcome=some .matched/\m.start=s+k/\m.handed=s+k+n/\m.marks= #[some (s+k),some (s+k+n)]/\m.lastmark=1:=by
 intro k
 induction k with
 | zero=>
  intro s b a1 a2 seen _ hs hr
  obtain ⟨e1,h1⟩:=step0 T s b a1 a2 seen
  obtain ⟨e2,h2⟩:=step1 T s b a2 e1 n hr hs
  rw [if_neg (Nat.not_lt.mpr hn)] at h2
  obtain ⟨e3,h3⟩:=step2 T s n b a2 e2
  obtain ⟨e4,h4⟩:=step3 T s n b e3
  obtain ⟨m,h5,r1,r2,r3,r4,r5⟩:=step4 T s n b e4
  refine ⟨7,m,by decide,?_,r1,r2,r3,r4,r5⟩
  show (mk0 T s b a1 a2 seen).step.step.step.step.step.step.step=m
  rw [h1,h2,h3,h4,h5]
 | succ k ih=>
  intro s b a1 a2 seen hb hs hr
  have hs0:=Nat.lt_of_le_of_lt (Nat.le_add_right _ _) hs
  obtain ⟨e1,h1⟩:=step0 T s b a1 a2 seen
  obtain ⟨e2,h2⟩:=step1 T s b a2 e1 0 (runLen_zero (hb 0 (Nat.succ_pos k))) hs0
  rw [if_pos (by decide)] at h2
  have h3:=stepF T s b a2 e2 hs0
  have ea:s+1+k=s+(k+1):=Nat.succ_add_eq_add_succ s k
  obtain ⟨N,m,hN,h4,r⟩:=ih (s+1) false (some s) a2 e2 (fun i hi=>by have:=hb (i+1) (Nat.succ_lt_succ hi);rwa [←Nat.succ_add_eq_add_succ s i] at this) (by rw [ea];exact hs) (by rw [ea];exact hr)
  rw [ea] at r
  refine ⟨3+N,m,add3 hN,?_,r⟩
  rw [stepN_add]
  show stepN N (mk0 T s b a1 a2 seen).step.step.step=m
  rw [h1,h2,h3,h4]
theorem unfound:∀(k s:Nat) (b:Bool) (a1 a2:ON) (seen:Sre.Seen),(∀i,i<k->blank (T.getD (s+i) 0)=false)->s+k=T.size->
  ∃N m,N<=3*k+4/\stepN N (mk0 T s b a1 a2 seen)=m/\m.outcome=some .failed:=by
 intro k
 induction k with
 | zero=>
  intro s b a1 a2 seen _ hs
  obtain ⟨e1,h1⟩:=step0 T s b a1 a2 seen
  obtain ⟨e2,h2⟩:=step1_end T s b a2 e1 (Nat.le_of_eq hs.symm)
  obtain ⟨m,h3,r⟩:=stepF_end T s b a2 e2 (Nat.le_of_eq hs.symm)
  refine ⟨4,m,by decide,?_,r⟩
  show (mk0 T s b a1 a2 seen).step.step.step.step=m
  rw [h1,h2,h3]
 | succ k ih=>
  intro s b a1 a2 seen hb hs
  have hs0:s<T.size:=Nat.lt_of_lt_of_eq (Nat.lt_add_of_pos_right (Nat.succ_pos k)) hs
  obtain ⟨e1,h1⟩:=step0 T s b a1 a2 seen
  obtain ⟨e2,h2⟩:=step1 T s b a2 e1 0 (runLen_zero (hb 0 (Nat.succ_pos k))) hs0
  rw [if_pos (by decide)] at h2
  have h3:=stepF T s b a2 e2 hs0
  obtain ⟨N,m,hN,h4,r⟩:=ih (s+1) false (some s) a2 e2 (fun i hi=>by have:=hb (i+1) (Nat.succ_lt_succ hi);rwa [←Nat.succ_add_eq_add_succ s i] at this) ((Nat.succ_add_eq_add_succ s k).trans hs)
  refine ⟨3+N,m,add3 hN,?_,r⟩
  rw [stepN_add]
  show stepN N (mk0 T s b a1 a2 seen).step.step.step=m
  rw [h1,h2,h3,h4]
theorem search_at (s:Nat) (h:s<T.size):∃seen,Sre.forSearch reCode T 1 s T.size false=mk0 T s true none none seen:=by
 refine ⟨({}:Sre.Seen).add 14,?_⟩
 unfold Sre.forSearch
 show (if (decide (s>T.size)|| decide (T.size-s<1))=true then _ else _)=_
 rw [if_neg (by simp;exact ⟨Nat.le_of_lt h,Nat.sub_ne_zero_of_lt h⟩)]
 rfl
theorem search_end (s:Nat) (h:T.size<=s):∃m,stepN 1 (Sre.forSearch reCode T 1 s T.size false)=m/\m.outcome=some .failed:=by
 refine ⟨_,rfl,?_⟩
 unfold Sre.forSearch
 show (stepN 1 (if (decide (s>T.size)|| decide (T.size-s<1))=true then _ else _)).outcome=_
 rw [if_pos (by simp;exact .inr (Nat.sub_eq_zero_of_le h))]
 rfl
end
section
variable {M:Model} {A:Around} {E:Value->Shared->Prop} {s:Shared}
theorem wp_drive {Q:Sre.M->Shared->Prop}:∀(t N:Nat) (m m':Sre.M),N<=4*t->stepN N m=m'->m'.outcome.isSome=true->1<=t->Q m' s->wpAny M A (Builtin.Re.reDrive t m) Q E s:=by
 intro t
 induction t with
 | zero=>intro N m m' _ _ _ h;exact absurd h (Nat.not_succ_le_zero 0)
 | succ t ih=>
  intro N m m' hN hm ho _ hQ
  unfold Builtin.Re.reDrive
  have e4:m.runFor Builtin.Re.reTurnSteps=stepN 4 m:=runFor_stepN 4 m
  show wpAny M A (if (m.runFor Builtin.Re.reTurnSteps).outcome.isSome then pure (m.runFor Builtin.Re.reTurnSteps) else do rule "sre.turn";Builtin.Re.reDrive t (m.runFor Builtin.Re.reTurnSteps)) Q E s
  rw [e4]
  by_cases h4:N<=4
  ·have:stepN 4 m=m':=by
    have:4=N+(4-N):=(Nat.add_sub_cancel' h4).symm
    rw [this,stepN_add,hm,stepN_done ho]
   rw [this,if_pos ho]
   exact wpAny_pure hQ
  ·have hl:=Nat.le_of_lt (Nat.not_le.mp h4)
   split
   ·rename_i h
    have:stepN 4 m=m':=by
     rw [←hm,show N=4+(N-4) from (Nat.add_sub_cancel' hl).symm,stepN_add,stepN_done h]
    rw [this]
    exact wpAny_pure hQ
   ·refine wpAny_bind (wpAny_rule ?_)
    refine ih (N-4) _ m' (Nat.sub_le_of_le_add (show N<=4*t+4 from hN)) ?_ ho (Nat.pos_of_ne_zero fun e=>h4 (by rw [e] at hN;exact hN)) hQ
    rw [←stepN_add,Nat.add_sub_cancel' hl,hm]
end
noncomputable abbrev Seg:=LN×LN
noncomputable def segTx:List Seg->LN
 | []=>[]
 | g::gs=>g.1++g.2++segTx gs
noncomputable def segParts:List Seg->List LN
 | []=>[]
 | g::gs=>g.1::g.2::segParts gs
def Seg.ok (g:Seg):Prop:=g.1≠[]/\(∀c∈g.1,blank c=true)/\(∀c∈g.2,blank c=false)/\g.2≠[]
def sSplit (T:LN) (t:Nat) (parts:List LN):Summ where
 code:=.builtin "re.Pattern.split" ⟨[.ref 50,.str (st T) t],[]⟩
 Res:=Nat×List (LN×Nat)
 post:=fun x=>x.2.map (·.1)=parts
 res:=fun x=>.ok (.ret (.ref x.1))
 new:=fun x=>[(x.1,lst (lineVs x.2) 0)]
 d:=5
 u:=10
theorem runLen_eq (a b:LN) (pre:LN) (n:Nat) (hb:∀c∈a,blank c=true) (hn:a.length<=n) (he:b=[]\/∃c r,b=c::r/\blank c=false) (hf:b=[]->n=a.length):
  runLen (pre++a++b).toArray n pre.length=a.length:=by
 induction a generalizing pre n with
 | nil=>
  rcases he with rfl | ⟨c,r,rfl,hc⟩
  ·have:n=0:=by simpa using hf rfl
   subst this;rfl
  ·apply runLen_zero
   simp [Array.getD_eq_getD_getElem?,hc]
 | cons c a ih=>
  cases n with
  | zero=>simp at hn
  | succ n=>
   unfold runLen
   have:(pre++c::a++b).toArray.getD pre.length 0=c:=by simp [Array.getD_eq_getD_getElem?]
   rw [this,hb c (.head _),if_pos rfl]
   have:=ih (pre++[c]) n (fun x hx=>hb x (.tail _ hx)) (by simp at hn;lia) (fun h=>by have:=hf h;simp at this;lia)
   simp only [List.append_assoc,List.singleton_append,List.length_append,List.length_cons,List.length_nil,Nat.zero_add,List.cons_append,List.nil_append] at this ⊢
   rw [this]
theorem nonblank_at {p r pre:LN} (hp:∀c∈p,blank c=false) (i:Nat) (hi:i<p.length):blank ((pre++p++r).toArray.getD (pre.length+i) 0)=false:=by
 have:(pre++p++r).toArray.getD (pre.length+i) 0=p[i]:=by
  simp [Array.getD_eq_getD_getElem?,List.append_assoc]
  rw [List.getElem?_append_right (by lia),Nat.add_sub_cancel_left,List.getElem?_append_left hi,List.getElem?_eq_getElem hi];rfl
 rw [this]
 exact hp _ (List.getElem_mem hi)
section
variable {M:Model} {A:Around} {E:Value->Shared->Prop} {s:Shared}
theorem wp_seen {Q:PUnit->Shared->Prop} (p:Nat->Bool) (g:Nat->String) (hQ:Q PUnit.unit s):∀l:LN,wpAny M A (forIn l PUnit.unit fun i (_:PUnit)=>if p i=true then do
    rule (g i)
    pure (ForInStep.yield PUnit.unit)
   else pure (ForInStep.yield PUnit.unit)) Q E s
 | []=>by rw [List.forIn_nil];exact wpAny_pure hQ
 | i::l=>by
  rw [List.forIn_cons]
  refine wpAny_bind ?_
  split
  ·exact wpAny_bind (wpAny_rule (wpAny_pure (wp_seen p g hQ l)))
  ·exact wpAny_pure (wp_seen p g hQ l)
theorem wp_toEnd {Q:Option Sre.M->Shared->Prop} {N:Nat} {m m':Sre.M} (hN:N<=4*2^64) (hm:stepN N m=m') (h:(m'.outcome=some .matched/\Q (some m') s)\/(m'.outcome=some .failed/\Q none s)):wpAny M A (Builtin.Re.reRunToEnd m) Q E s:=by
 unfold Builtin.Re.reRunToEnd
 refine wpAny_bind (wp_drive (2^64) N m m' hN hm (by rcases h with h | h <;>rw [h.1] <;>rfl) (by decide) ?_)
 refine wpAny_bind (wp_seen _ _ ?_ _)
 rcases h with h | h
 ·rw [h.1];exact wpAny_pure h.2
 ·rw [h.1];exact wpAny_pure h.2
end
noncomputable def front:LN->List Seg->List LN
 | _,[]=>[]
 | p,g::gs=>p::g.1::front g.2 gs
noncomputable def lastP:LN->List Seg->LN
 | p,[]=>p
 | _,g::gs=>lastP g.2 gs
theorem front_last:∀(p:LN) (gs:List Seg),front p gs++[lastP p gs]=p::segParts gs
 | _,[]=>rfl
 | p,g::gs=>by show p::g.1::(front g.2 gs++[lastP g.2 gs])=p::g.1::g.2::segParts gs;rw [front_last]
theorem lt4 {a b c d:Nat} (h:1<=d):a+b<a+b+c+d:=Nat.lt_of_le_of_lt (Nat.le_add_right _ c) (Nat.lt_add_of_pos_right h)
theorem bigN {N k:Nat} (h:N<=3*k+7) (hk:k<=50000):N<=4*2^64:=by lia
structure Tgt (t:Builtin.Re.ReTarget) (T:LN):Prop where
 code:t.code=reCode
 text:t.text=T.toArray
 kind:t.kind=0
 groups:t.groups=1
 lim:t.lim=T.length
section
variable {M:Model} {A:Around} {E:Value->Shared->Prop} {s:Shared}
section
variable {Q:Option Sre.M->Shared->Prop} {t:Builtin.Re.ReTarget}
theorem wp_found {pre p a b:LN} (ht:Tgt t (pre++p++a++b)) (hp:∀c∈p,blank c=false) (ha:∀c∈a,blank c=true) (ha0:a≠[]) (hb:∃c r,b=c::r/\blank c=false) (hT:(pre++p++a++b).length<=50000)
  (hQ:∀m:Sre.M,m.start=pre.length+p.length->m.handed=pre.length+p.length+a.length->m.marks= #[some (pre.length+p.length),some (pre.length+p.length+a.length)]->m.lastmark=1->Q (some m) s):
  wpAny M A (Builtin.Re.reNextFound t pre.length false) Q E s:=by
 unfold Builtin.Re.reNextFound
 rw [ht.code,ht.text,ht.groups,ht.lim]
 have hsz:(pre++p++a++b).toArray.size=(pre++p++a++b).length:=by simp
 have hal:1<=a.length:=by cases a with | nil=>exact absurd rfl ha0 | cons=>simp
 have hbl:1<=b.length:=by obtain ⟨c,r,rfl,_⟩:=hb;simp
 have hlen:(pre++p++a++b).length=pre.length+p.length+a.length+b.length:=by simp only [List.length_append]
 rw [←hsz]
 obtain ⟨seen,he⟩:=search_at (pre++p++a++b).toArray pre.length (by rw [hsz,hlen];exact Nat.lt_of_le_of_lt (Nat.le_add_right _ p.length) (lt4 hbl))
 rw [he]
 have hr:runLen (pre++p++a++b).toArray (min 4294967295 ((pre++p++a++b).toArray.size-(pre.length+p.length))) (pre.length+p.length)=a.length:=by
  have:=runLen_eq a b (pre++p) (min 4294967295 ((pre++p++a++b).toArray.size-(pre.length+p.length))) ha (by rw [hsz];exact Nat.le_min.mpr ⟨leX (by rw [hlen];exact Nat.le_trans (Nat.le_add_left _ _) (Nat.le_add_right _ _)) hT rfl,Nat.le_sub_of_add_le (by rw [hlen,Nat.add_comm a.length];exact Nat.le_add_right _ _)⟩) (.inr hb) (fun h=>by rw [h] at hbl;simp at hbl)
  rwa [List.length_append] at this
 obtain ⟨N,m,hN,hm,r1,r2,r3,r4,r5⟩:=found (pre++p++a++b).toArray a.length hal p.length pre.length true none none seen (fun i hi=>by
  have:=nonblank_at (r:=a++b) (pre:=pre) hp i hi
  rwa [←List.append_assoc] at this) (by rw [hsz,hlen];exact lt4 hbl) hr
 exact wp_toEnd (N:=N) (bigN hN (Nat.le_trans (by rw [hlen];exact Nat.le_trans (Nat.le_add_left _ _) (Nat.le_trans (Nat.le_add_right _ _) (Nat.le_add_right _ _))) hT)) hm (.inl ⟨r1,hQ m r2 r3 r4 r5⟩)
theorem wp_unfound {pre p:LN} (ht:Tgt t (pre++p)) (hp:∀c∈p,blank c=false) (hT:(pre++p).length<=50000)
  (hQ:Q none s):wpAny M A (Builtin.Re.reNextFound t pre.length false) Q E s:=by
 unfold Builtin.Re.reNextFound
 rw [ht.code,ht.text,ht.groups,ht.lim]
 have hsz:(pre++p).toArray.size=(pre++p).length:=by simp
 have hlen:(pre++p).length=pre.length+p.length:=by simp only [List.length_append]
 rw [←hsz]
 by_cases h0:p=[]
 ·subst h0
  obtain ⟨m,hm,r⟩:=search_end (pre++[]).toArray pre.length (by rw [hsz,hlen];simp)
  exact wp_toEnd (N:=1) (by decide) hm (.inr ⟨r,hQ⟩)
 ·have hpl:1<=p.length:=by cases p with | nil=>exact absurd rfl h0 | cons=>simp
  obtain ⟨seen,he⟩:=search_at (pre++p).toArray pre.length (by rw [hsz,hlen];exact Nat.lt_add_of_pos_right hpl)
  rw [he]
  obtain ⟨N,m,hN,hm,r1⟩:=unfound (pre++p).toArray p.length pre.length true none none seen (fun i hi=>by
   have:=nonblank_at (r:=[]) (pre:=pre) hp i hi
   rwa [List.append_nil] at this) (by rw [hsz];exact hlen.symm)
  exact wp_toEnd (N:=N) (bigN (Nat.le_trans hN (Nat.add_le_add_left (Nat.le_add_right 4 3) _)) (Nat.le_trans (by rw [hlen];exact Nat.le_add_left _ _) hT)) hm (.inr ⟨r1,hQ⟩)
end
noncomputable abbrev SplSt:=Array Value×Nat×Nat×Bool×Int×Bool
noncomputable def splBody (t:Builtin.Re.ReTarget) (_:Nat) (z:SplSt):Sem (ForInStep SplSt):=
 if (!z.2.2.2.2.2)=true then do
  let r ←if ((0:Int) !=0&&decide (z.2.2.2.2.1>=0))=true then pure none else Builtin.Re.reNextFound t z.2.1 z.2.2.2.1
  match r with
  | none=>pure (ForInStep.yield (z.1,z.2.1,z.2.2.1,z.2.2.2.1,z.2.2.2.2.1,true))
  | some m=>do
   let v ←Builtin.Re.reSlice t.text t.kind z.2.2.1 m.start
   let out ←forIn (List.range t.groups) (z.1.push v) fun g out=>do
    let v ←Builtin.Re.reMachineGroup t m (g+1) (pure Value.none)
    pure (ForInStep.yield (out.push v))
   pure (ForInStep.yield (out,m.handed,m.handed,m.handed==m.start,z.2.2.2.2.1+1,z.2.2.2.2.2))
 else pure (ForInStep.yield z)
theorem wp_over {Q:SplSt->Shared->Prop} {t:Builtin.Re.ReTarget} (z:SplSt) (hz:z.2.2.2.2.2=true) (hQ:Q z s):∀l:LN,wpAny M A (forIn l z (splBody t)) Q E s
 | []=>by rw [List.forIn_nil];exact wpAny_pure hQ
 | i::l=>by
  rw [List.forIn_cons]
  refine wpAny_bind ?_
  unfold splBody
  rw [hz,if_neg (by decide)]
  exact wpAny_pure (wp_over z hz hQ l)
theorem wp_slice {Q:Value->Shared->Prop} {T:LN} {b e:Nat} {x:LN} (hx:(T.toArray.extract b e).toList=x) (hl:x.length<=100000) (hQ:Q (.str (st x) s.toks) {s with toks:=s.toks+1}):wpAny M A (Builtin.Re.reSlice T.toArray 0 b e) Q E s:=by
 unfold Builtin.Re.reSlice
 rw [if_pos (by rfl)]
 have e1:(⟨T.toArray.extract b e⟩:Str)=st x:=by
  unfold st;congr 1;rw [←hx]
 rw [e1]
 refine wpAny_mkStr hQ ?_
 show x.toArray.size<=sizeLine
 rw [sizeLine_eq];simp;exact leT ‹_› rfl
theorem wp_spl {t:Builtin.Re.ReTarget}:∀(gs:List Seg) (l:LN) (out:Array Value) (pre p:LN) (n:Int) (s:Shared) (Q:SplSt->Shared->Prop),gs.length<l.length->Tgt t (pre++p++segTx gs)->(pre++p++segTx gs).length<=50000->
  (∀c∈p,blank c=false)->(∀g∈gs,g.ok)->(∀(vs:List (LN×Nat)) (last tk:Nat) (n':Int),vs.map (·.1)=front p gs->((pre++p++segTx gs).drop last=lastP p gs)->Q (out++(lineVs vs).toArray,last,last,false,n',true) {s with toks:=tk})->
  wpAny M A (forIn l ((out,pre.length,pre.length,false,n,false):SplSt) (splBody t)) Q E s:=by
 intro gs
 induction gs with
 | nil=>
  intro l out pre p n s Q hl ht hT hp _ hQ
  cases l with
  | nil=>simp at hl
  | cons i l=>
   rw [List.forIn_cons]
   have hbody:splBody t i ((out,pre.length,pre.length,false,n,false):SplSt)=(do
     let r ←Builtin.Re.reNextFound t pre.length false
     match r with
     | none=>pure (ForInStep.yield ((out,pre.length,pre.length,false,n,true):SplSt))
     | some m=>do
      let v ←Builtin.Re.reSlice t.text t.kind pre.length m.start
      let out ←forIn (List.range t.groups) (out.push v) fun g out=>do
       let v ←Builtin.Re.reMachineGroup t m (g+1) (pure Value.none)
       pure (ForInStep.yield (out.push v))
      pure (ForInStep.yield ((out,m.handed,m.handed,m.handed==m.start,n+1,false):SplSt))):=by
    unfold splBody
    simp only [Bool.not_false,if_true]
    rw [if_neg (by simp)]
   refine wpAny_bind ?_
   rw [hbody]
   have e0:pre++p++segTx []=pre++p:=by simp [segTx]
   rw [e0] at ht hT
   refine wpAny_bind (wp_unfound ht hp hT ?_)
   refine wpAny_pure ?_
   refine wp_over _ rfl ?_ l
   have:=hQ [] pre.length s.toks n rfl (by rw [e0];simp [lastP])
   simpa [lineVs] using this
 | cons g gs ih=>
  intro l out pre p n s Q hl ht hT hp hg hQ
  cases l with
  | nil=>simp at hl
  | cons i l=>
   obtain ⟨g0,g1,g2,g3⟩:=hg g (.head _)
   have e0:pre++p++segTx (g::gs)=pre++p++g.1++(g.2++segTx gs):=by simp [segTx]
   have e1:pre++p++segTx (g::gs)=(pre++p++g.1)++g.2++segTx gs:=by simp [segTx]
   have hb:∃c r,g.2++segTx gs=c::r/\blank c=false:=by
    cases h:g.2 with
    | nil=>exact absurd h g3
    | cons c r=>exact ⟨c,r++segTx gs,rfl,g2 c (by rw [h];exact .head _)⟩
   have hlenT:(pre++p++g.1++(g.2++segTx gs)).length=pre.length+p.length+g.1.length+(g.2++segTx gs).length:=by simp only [List.length_append]
   rw [List.forIn_cons]
   have hbody:splBody t i ((out,pre.length,pre.length,false,n,false):SplSt)=(do
     let r ←Builtin.Re.reNextFound t pre.length false
     match r with
     | none=>pure (ForInStep.yield ((out,pre.length,pre.length,false,n,true):SplSt))
     | some m=>do
      let v ←Builtin.Re.reSlice t.text t.kind pre.length m.start
      let out ←forIn (List.range t.groups) (out.push v) fun g out=>do
       let v ←Builtin.Re.reMachineGroup t m (g+1) (pure Value.none)
       pure (ForInStep.yield (out.push v))
      pure (ForInStep.yield ((out,m.handed,m.handed,m.handed==m.start,n+1,false):SplSt))):=by
    unfold splBody
    simp only [Bool.not_false,if_true]
    rw [if_neg (by simp)]
   refine wpAny_bind ?_
   rw [hbody]
   refine wpAny_bind (wp_found (e0▸ht) hp g1 g0 hb (e0▸hT) fun m r1 r2 r3 r4=>?_)
   have ht':=ht
   rw [e0] at ht' hT
   show wpAny M A (Builtin.Re.reSlice t.text t.kind pre.length m.start>>=_) _ _ _
   rw [ht'.text,ht'.kind,r1,ht'.groups]
   refine wpAny_bind (wp_slice (x:=p) (by simp) (by lia) ?_)
   rw [show List.range 1=[0] from rfl,List.forIn_cons]
   refine wpAny_bind (wpAny_bind ?_)
   have eg:Builtin.Re.reMachineGroup t m (0+1) (pure Value.none)=Builtin.Re.reSlice t.text t.kind (pre.length+p.length) (pre.length+p.length+g.1.length):=by
    unfold Builtin.Re.reMachineGroup
    rw [r4,r3]
    rw [if_neg (by simp)]
    show (if pre.length+p.length+g.1.length<pre.length+p.length then _ else _)=_
    rw [if_neg (by lia)]
   rw [eg,ht'.text,ht'.kind]
   refine wpAny_bind (wp_slice (x:=g.1) (by simp) (by lia) ?_)
   refine wpAny_pure ?_
   refine wpAny_pure (wpAny_pure ?_)
   have ehd:m.handed=(pre++p++g.1).length:=by rw [r2];simp only [List.length_append]
   have emu:(m.handed==pre.length+p.length)=false:=by
    rw [r2]
    have:1<=g.1.length:=by cases h:g.1 with | nil=>exact absurd h g0 | cons=>simp
    simp;lia
   rw [emu,ehd]
   refine ih l _ (pre++p++g.1) g.2 (n+1) _ Q (by simpa using hl) (e1▸ht) (by rw [←e1,e0];exact hT) g2 (fun g' hg'=>hg g' (.tail _ hg')) fun vs last tk n' hvs hlast=>?_
   have:=hQ ((p,s.toks)::(g.1,s.toks+1)::vs) last tk n' (by simp [front,hvs]) (by rw [e1,hlast];rfl)
   simpa [lineVs] using this
end
noncomputable def reCodeVs:Array Value:= #[.int 14 0,.int 4 0,.int 0 0,.int 1 0,.int 4294967295 0,.int 17 0,.int 0 0,.int 24 0,.int 11 0,.int 1 0,.int 4294967295 0,.int 13 0,.int 6 0,.int 16 0,.int 32 0,.int 16 0,.int 9 0,.int 0 0,.int 1 0,.int 17 0,.int 1 0,.int 1 0]
noncomputable def patFs (a:Str) (t u:Nat):Array Value:= #[.str a t,.int 32 u,.int 1 0,.none,.none,.ref 49,.int 0 0]
theorem obj50 (w:World):∃a t u,(tb w).get 50=some {cls:=.type "re.Pattern",data:=.fields (patFs a t u)}:=⟨"([ \t]+)",303,328,by kernel_rfl⟩
theorem obj49 (w:World):(tb w).get 49=some {cls:=.type "tuple",data:=.seq reCodeVs}:=by kernel_rfl
theorem named_split (v:Value):Builtin.Re.reNamed "re.Pattern.split" "split" ["string","maxsplit"] 1 [v] []=pure [some v,none]:=by kernel_rfl
theorem entry_split:entryFor table "re.Pattern.split"=some Builtin.«re.Pattern.split»:=entryFor_of_tree (by kernel_rfl)
theorem plain_split:plainId "re.Pattern.split"=true:=by decide +kernel
theorem split_eq (string:Value):Builtin.«re.Pattern.split» ⟨[.ref 50,string],[]⟩=(do
  let t ←Builtin.Re.reWholeTarget (.ref 50) string
  let z ←forIn (List.range (Builtin.Re.reMostMatches t)) ((#[],0,0,false,0,false):SplSt) (splBody t)
  if (!z.2.2.2.2.2)=true then do
   let _ ←(unsupported "internal:re:more-matches-than-can-be":Sem Unit)
   ret (←newList (z.1.push (←Builtin.Re.reSlice t.text t.kind z.2.2.1 t.lim)).toList)
  else do
   ret (←newList (z.1.push (←Builtin.Re.reSlice t.text t.kind z.2.2.1 t.lim)).toList)):=by
 unfold Builtin.«re.Pattern.split»
 dsimp only
 rw [named_split]
 rfl
theorem segParts_len:∀gs:List Seg,(segParts gs).length=2*gs.length
 | []=>rfl
 | g::gs=>by simp only [segParts,List.length_cons,segParts_len gs];lia
theorem seg_len:∀gs:List Seg,(∀g∈gs,g.ok)->gs.length<=(segTx gs).length
 | [],_=>by simp
 | g::gs,hg=>by
  obtain ⟨h1,-,-,h4⟩:=hg g (.head _)
  have:=seg_len gs fun g hg'=>hg g (.tail _ hg')
  have:1<=g.1.length:=by cases h:g.1 with | nil=>exact absurd h h1 | cons=>simp
  simp only [segTx,List.length_cons,List.length_append];lia
theorem sSplit_valid {w:World} (T:LN) {t:Nat} (p:LN) (gs:List Seg) (hT:T=p++segTx gs) (hl:T.length<=50000) (hp:∀c∈p,blank c=false) (hg:∀g∈gs,g.ok):Vd w (sSplit T t (p::segParts gs)):=
 valid_b rfl plain_split entry_split fun A s room base need imm=>by
  obtain ⟨a,t1,u1,h50⟩:=obj50 w
  have o50:=base.get 50 _ (by decide +kernel) h50 rfl
  have o49:=base.get 49 _ (by decide +kernel) (obj49 w) rfl
  show wpAny _ A.in1 (Builtin.«re.Pattern.split» ⟨[.ref 50,.str (st T) t],[]⟩) _ _ s
  rw [split_eq]
  refine wpAny_bind (m:=Builtin.Re.reWholeTarget _ _) ?_
  unfold Builtin.Re.reWholeTarget
  refine wpAny_bind (wpAny_fieldsOf o50 rfl ?_)
  refine wpAny_bind (m:=Builtin.Re.reTextOf _) (wpAny_pure ?_)
  show wpAny _ _ (Builtin.Re.reNoCollectionInside _ 0>>=_) _ _ s
  refine wpAny_bind (wpAny_pure ?_)
  refine wpAny_bind ?_
  show wpAny _ _ (Builtin.Re.reRawItems (.ref 49)) _ _ s
  unfold Builtin.Re.reRawItems
  refine wpAny_bind (wpAny_seqItems o49 rfl ?_)
  refine wpAny_pure (wpAny_pure ?_)
  have htg:Tgt {pattern:=.ref 50,string:=.str (st T) t,code:=((Array.map Builtin.Re.reRawOf ((some reCodeVs).getD #[])).map (·.toNat)),text:=(st T).cps,kind:=0,groups:=1,pos:=0,lim:=(st T).cps.size} T:=⟨by kernel_rfl,rfl,rfl,rfl,by simp [st]⟩
  refine wpAny_bind ?_
  have hgl:=seg_len gs hg
  have hTl:T.length=p.length+(segTx gs).length:=by rw [hT,List.length_append]
  refine wp_spl gs _ #[] [] p 0 _ _ (by
   rw [List.length_range]
   show gs.length<2*(st T).cps.size+3
   have:(st T).cps.size=T.length:=by simp [st]
   lia) (by rw [List.nil_append,←hT];exact htg) (by rw [List.nil_append,←hT];exact hl) hp hg fun vs last tk n' hvs hlast=>?_
  rw [List.nil_append,←hT] at hlast
  show wpAny _ _ (if (!true)=true then _ else _) _ _ _
  rw [if_neg (by decide)]
  have hx:(T.toArray.extract last (st T).cps.size).toList=lastP p gs:=by
   rw [←hlast]
   have:(st T).cps.size=T.length:=by simp [st]
   rw [this];simp only [List.extract_toArray,List.extract_eq_take_drop];exact List.take_of_length_le (by simp)
  have hll:(lastP p gs).length<=50000:=by rw [←hlast,List.length_drop];lia
  refine wpAny_bind (wp_slice hx (by exact leT ‹_› rfl) ?_)
  have hvl:(lineVs vs).length<=100000:=by
   have h1:vs.length=(front p gs).length:=by rw [←hvs,List.length_map]
   have h2:(front p gs).length+1=(p::segParts gs).length:=by rw [←front_last,List.length_append];rfl
   have h3:=segParts_len gs
   have:(lineVs vs).length=vs.length:=by simp [lineVs]
   simp only [List.length_cons] at h2
   lia
  refine wpAny_bind (wpAny_newList (wpAny_pure ⟨_,rfl,(s.heap.objs.size,vs++[(lastP p gs,tk)]),?_,rfl,rfl,?_⟩) ?_)
  ·show (vs++[(lastP p gs,tk)]).map (·.1)=_
   rw [List.map_append,hvs];exact front_last p gs
  ·refine out_push (need:=[]) ?_ rfl rfl rfl need
   show s.heap.push _=s.heap.push _
   congr 1
   simp [lst,lineVs]
  ·rw [sizeLine_eq];simp;exact leT ‹_› rfl
def sSetHead (c:Value) (d:ON) (a:Nat) (xs:LV) (ep:Nat) (sl al:Nat) (t:Nat) (ys:LV) (ep':Nat):Summ where
 code:=.builtin "list.__setitem__" ⟨[.ref a,.ref sl,.ref al],[]⟩
 need:=[(a,seqO c d xs ep),(sl,sliceO .none (.int 0 t) .none),(al,lst ys ep')]
 Res:=Nat
 res:=fun _=>.ok (.ret .none)
 upd:=fun x=>[seqO c d (ys++xs) x,sliceO .none (.int 0 t) .none,lst ys ep']
 d:=5
 u:=10
theorem sSetHead_valid {w:World} {c:Value} {d:ON} {a:Nat} {xs:LV} {ep:Nat} {sl al:Nat} {t:Nat} {ys:LV} {ep':Nat} (h:xs.length+ys.length<=100000):Vd w (sSetHead c d a xs ep sl al t ys ep'):=by
 exact valid_n rfl PySem.F.slot_list_setitem.plain PySem.F.entry_list_setitem fun A s room base need imm nodup msk=>by
  have ho:s.heap.get? a=some ⟨c,d,.seq xs.toArray ep,#[]⟩:=need _ (.head _)
  have hs:s.heap.get? sl=some (sliceO .none (.int 0 t) .none):=need _ (.tail _ (.head _))
  have hv:s.heap.get? al=some ⟨.type "list",none,.seq ys.toArray ep',#[]⟩:=need _ (.tail _ (.tail _ (.head _)))
  have nd:=List.nodup_cons.mp nodup
  have hne:a≠al:=fun e=>nd.1 (by rw [e];exact .tail _ (.head _))
  have hTs:=typeIs_slice hs
  have hTv:s.TypeIs (.ref al) "list":=⟨_,hv,rfl⟩
  show wpAny _ A.in1 (Builtin.«list.__setitem__» ⟨[.ref a,.ref sl,.ref al],[]⟩) _ _ s
  show wpAny _ _ (Builtin.List.listSubscript? (.ref sl)>>=_) _ _ s
  refine wpAny_bind ?_
  unfold Builtin.List.listSubscript?
  refine wpAny_bind (wpAny_specialOf hTs slice_no_index ?_)
  simp only [Option.isNone_none,if_true]
  refine wpAny_pure ?_
  show wpAny _ _ (typeOf (.ref sl)>>=_) _ _ s
  refine wpAny_bind (wpAny_typeOf hTs ?_)
  rw [if_neg (by decide)]
  rw [listSliceParts_eq]
  refine wpAny_bind (wpAny_bind (wpAny_field hs rfl (x:=.none) rfl (wpAny_bind (wpAny_listPart .none ?_))))
  rw [if_neg (show ¬((rawPart none==rawInt 0)=true) from Bool.false_ne_true)]
  refine wpAny_bind (wpAny_field hs rfl (x:=.none) rfl (wpAny_bind (wpAny_listPart .none ?_)))
  refine wpAny_bind (wpAny_field hs rfl (x:=.int 0 t) rfl (wpAny_bind (wpAny_listPart (.int _ _) (wpAny_pure ?_))))
  rw [if_neg (by simp [Builtin.List.listSameRef,hne])]
  refine wpAny_bind ?_
  unfold Builtin.List.listAllItems
  refine wpAny_bind (wpAny_typeOf hTv ?_)
  rw [if_pos (by decide)]
  refine PySem.wpAny_listItems hv rfl ?_
  refine wpAny_bind (m:=Builtin.List.listItems (.ref a)) (PySem.wpAny_listItems ho rfl ?_)
  refine wpAny_bind (wpAny_of_eq (sliceIndices_raw none (some 0) none xs.toArray.size (by simp)) ?_)
  rw [show sliceBounds none (some 0) none xs.toArray.size=(0,0,1) from by unfold sliceBounds;simp;lia]
  rw [if_pos (by rfl)]
  refine wpAny_bind (wpAny_rule ?_)
  have hbig:¬(Builtin.List.listTooLong (xs.toArray.size+ys.toArray.size)=true):=by
   unfold Builtin.List.listTooLong;rw [sizeLine_eq];simp;exact leT ‹_› rfl
  rw [if_neg hbig]
  have e1:((0:Int)).toNat=0:=rfl
  have e2:(max (0:Int) 0).toNat=0:=rfl
  have e3:∀z:Array Value,z=xs.toArray->z.extract 0 0++ys.toArray++z.extract 0 z.size=(ys++xs).toArray:=fun z hz=>by
   subst hz;simp
  have hp:∀n,(Data.seq (xs.toArray.extract 0 0++ys.toArray++xs.toArray.extract 0 xs.toArray.size) n).pastItsLine=none:=fun n=>past_seq (by rw [e3 _ rfl,sizeLine_eq];simp;lia)
  simp only [e1,e2]
  wp_walk
  simp only [Obj.mapSeq,hp]
  wp_walk
  exact ⟨_,rfl,_,trivial,rfl,rfl,Out.of_update (o:=seqO c d xs ep) (rest:=[(sl,sliceO .none (.int 0 t) .none),(al,lst ys ep')]) ho (by simp only [seqO,Obj.mapSeq,e3 _ rfl];rfl) rfl (fun p hp=>need p (.tail _ hp)) nd.1⟩
def sIadd (l:Nat) (xs:LV) (ep al:Nat) (ys:LV) (ep':Nat):Summ where
 code:=.builtin "list.__iadd__" ⟨[.ref l,.ref al],[]⟩
 need:=[(l,lst xs ep),(al,lst ys ep')]
 Res:=Nat
 res:=fun _=>.ok (.ret (.ref l))
 upd:=fun x=>[lst (xs++ys) x,lst ys ep']
 d:=5
 u:=10
theorem sIadd_valid {w:World} {l:Nat} {xs:LV} {ep al:Nat} {ys:LV} {ep':Nat} (h:xs.length+ys.length<=100000):Vd w (sIadd l xs ep al ys ep'):=
 valid_n rfl PySem.F.slot_list_iadd.plain PySem.F.entry_list_iadd fun A s room base need imm nodup msk=>by
 have hl:s.heap.get? l=some ⟨.type "list",none,.seq xs.toArray ep,#[]⟩:=need _ (.head _)
 have ha:s.heap.get? al=some ⟨.type "list",none,.seq ys.toArray ep',#[]⟩:=need _ (.tail _ (.head _))
 have nd:=List.nodup_cons.mp nodup
 have hT:s.TypeIs (.ref al) "list":=⟨_,ha,rfl⟩
 show wpAny _ A.in1 (Builtin.List.listExtendWith (.ref l) (.ref al) (.ref l)) _ _ s
 unfold Builtin.List.listExtendWith
 refine wpAny_bind (wpAny_typeOf hT ?_)
 have hp:∀n,(Data.seq (xs.toArray++ys.toArray) n).pastItsLine=none:=fun n=>past_seq (by rw [sizeLine_eq];simp;exact leT ‹_› rfl)
 rw [if_pos (by simp)]
 refine wpAny_bind (m:=Builtin.List.listItems (.ref al)) (PySem.wpAny_listItems ha rfl ?_)
 refine wpAny_bind (m:=Builtin.List.listItems (.ref l)) (PySem.wpAny_listItems hl rfl ?_)
 have hbig:¬((!xs.toArray.isEmpty&&Builtin.List.listTooLong (xs.toArray.size+ys.toArray.size))=true):=by
  unfold Builtin.List.listTooLong;rw [sizeLine_eq];simp;lia
 rw [if_neg hbig]
 wp_walk
 simp only [Obj.mapSeq,hp]
 wp_walk
 exact ⟨_,rfl,_,trivial,rfl,rfl,Out.of_update (o:=lst xs ep) (rest:=[(al,lst ys ep')]) hl (by simp [lst,Obj.mapSeq];rfl) rfl (fun p hp=>need p (.tail _ hp)) nd.1⟩
noncomputable def headT (target:Expr) (it:Value):Sem PySem.Fin:=do
 standAt target.pos
 match ←(pyNext it).onRaise (fun _=>standAt {target.pos with line:=0}) with
 | none=>pure (.done .next)
 | some v=>pure (.done (.ret v))
section
variable (target:Expr) (it v:Value) (body orelse:List Stmt) (env:Env)
noncomputable def restT:Sem PySem.Fin:=do
 assign target env v
 match ←execs body env with
 | .next | .cont=>again (.forLoop target it body orelse env)
 | .brk=>pure (.done .next)
 | .ret v=>pure (.done (.ret v))
def tailT:Sem PySem.Fin:=(restT target it v body orelse env).onRaise (fun x=>do noteFrame x env;theTreesLotGoes x)
end
theorem postC_mono {prog:Program} {w:World} {A:Around} {R R':Result->Shared->Prop} (h:∀r s,R r s->R' r s) {fin:PySem.Fin} {s:Shared} (x:postC prog w A R fin s):postC prog w A R' fin s:=by
 cases fin with
 | «done» f=>exact h _ _ x
 | again c=>exact ⟨x.1,codeAny_mono x.2 h⟩
theorem rezip_len:∀{l:Led} {os:List Obj},os.length=l.length->(rezip l os).map (·.1)=l.map (·.1)
 | [],_,_=>by unfold rezip;rfl
 | _::_,[],h=>by simp at h
 | p::l,o::os,h=>by
  unfold rezip
  simp only [List.map_cons]
  rw [rezip_len (by simpa using h)]
theorem rezip_app:∀{l:Led} {os os':List Obj} {m:Led},os'.length=l.length->os.length<=l.length->rezip (rezip l os'++m) os=rezip l os
 | [],[],[],m,_,_=>by cases m <;>rfl
 | [],[],_::_,_,h,_=>by simp at h
 | [],_::_,_,_,_,h=>by simp at h
 | _::_,_,[],_,h,_=>by simp at h
 | p::l,[],o'::os',m,_,_=>by simp [rezip]
 | p::l,o::os,o'::os',m,h,h2=>by
  simp only [rezip,List.cons_append]
  rw [rezip_app (by simpa using h) (by simpa using h2)]
theorem valid_turn {w:World} {S:Summ} {es:List Expr} {k1:Nat} {tp:Pos} {z:Nat} {body orelse:List Stmt} {env:Env} (S1:Summ) (a:S1.Res->Nat) (u2:S1.Res->List Obj) (S2:S1.Res->Summ) (zo zo2:S1.Res->Obj)
  (hcode:S.code=.forLoop (.Tuple es k1 tp) (.ref z) body orelse env) (hg:S.gneed=[])
  (c1:S1.code=S.code) (n1:S1.need=S.need) (i1:S1.imm=S.imm) (g1:S1.gone=0) (gg1:S1.gneed=[]) (d1:S1.d<=S.d) (uu1:S1.u<=S.u) (e1:S1.env=none) (f1:S1.fr=none) (r1:∀x,S1.res x=.ok (.ret (.ref (a x)))) (gi1:∀x,S1.giveImm x=[])
  (c2:∀x,(S2 x).code=S.code) (n2:∀x,(S2 x).need=rezip S.need (u2 x)++S1.new x) (i2:∀x,(S2 x).imm=S.imm) (gone2:∀x,(S2 x).gone=S.gone+(S1.new x).length) (gg2:∀x,(S2 x).gneed=[]) (dd2:∀x,(S2 x).d<=S.d) (uu2:∀x,(S2 x).u<=S.u) (ee2:∀x,(S2 x).env=none) (ff2:∀x,(S2 x).fr=none)
  (ul:∀x,(u2 x).length=S.need.length)
  (post2:∀x s r s',Post (S2 x) s r s'->∃y,S.post y/\r=S.res y/\(S.upd y).length+S.gone=S.need.length/\Out s s' (((S2 x).need).map (·.1)) (rezip (S2 x).need (S.upd y)) (S.new y) (S.giveImm y))
  (hgo:∀x (s:Shared) (A:Around) (Q:Unit->Shared->Prop) (E:Value->Shared->Prop),S1.post x->s.heap.get? z=some (zo x)->(∀h',h'.get? z=some (zo2 x)->Heap.SameBut z s.heap h'->Q () {s with heap:=h'})->wpAny (model pw w) A (letOwnedTupleGo (.Tuple es k1 tp) (.ref z) (.ref (a x))) Q E s)
  (hz:∀x,(z,zo x)∈rezip S.need (S1.upd x)) (hsel:∀x,(S.need.map (·.1)).Nodup->∀p∈rezip S.need (u2 x),p=(z,zo2 x)\/(p.1≠z/\p∈rezip S.need (S1.upd x))) (hzn:z∈S.need.map (·.1))
  (H1:∀A s,RoomOk A S1->BaseOk mask w s.heap->(∀p∈S1.need,s.heap.get? p.1=some p.2)->(∀p∈S1.imm,s.heap.get? p.1=some p.2/\p.1∉S1.need.map (·.1))->
   (S1.need.map (·.1)).Nodup->(∀p∈S1.need,Nat.testBit mask p.1=false)->(∀g∈S1.gneed,s.gens[g.1]? =some (.fresh g.2))->
   wpOwn (model pw w) A S1.code (headT (.Tuple es k1 tp) (.ref z)) (postC pw w A (Post S1 s)) (postE (Post S1 s)) s)
  (H2:∀x,S1.post x->∀A s,RoomOk A (S2 x)->BaseOk mask w s.heap->(∀p∈(S2 x).need,s.heap.get? p.1=some p.2)->(∀p∈(S2 x).imm,s.heap.get? p.1=some p.2/\p.1∉(S2 x).need.map (·.1))->
   ((S2 x).need.map (·.1)).Nodup->(∀p∈(S2 x).need,Nat.testBit mask p.1=false)->(∀g∈(S2 x).gneed,s.gens[g.1]? =some (.fresh g.2))->
   wpOwn (model pw w) A (S2 x).code (tailT (.Tuple es k1 tp) (.ref z) (.ref (a x)) body orelse env) (postC pw w A (Post (S2 x) s)) (postE (Post (S2 x) s)) s):Vd w S:=by
 intro A s room base need imm nodup msk gn
 refine y_code _ _ _ _ _ _ ?_
 rw [hcode]
 intro Γ p hc hΓ
 have h1:=H1 A s ⟨room.handled,Nat.lt_of_le_of_lt (Nat.add_le_add_left d1 _) room.depth,Nat.lt_of_le_of_lt (Nat.add_le_add_left uu1 _) room.units,fun e q=>(by rw [e1] at q;cases q),room.frames,fun e q=>(by rw [f1] at q;cases q)⟩ base (by rw [n1];exact need) (by rw [n1,i1];exact imm) (by rw [n1];exact nodup) (by rw [n1];exact msk) (by rw [gg1];exact fun _ h=>nomatch h)
 rw [c1,hcode] at h1
 have h1:=h1 Γ p hc hΓ
 show Sem.wp _ Γ ((forTurn (.Tuple es k1 tp) (.ref z) body orelse env).onRaise _) _ _ p s
 rw [Sem.wp_onRaise]
 unfold forTurn
 unfold headT at h1
 rw [Sem.wp_bind'] at h1 ⊢
 refine Sem.wp_mono _ Γ _ (fun _ p1 s1 h1=>?_) (fun e p1 s1 h1=>?_) p s h1
 ·rw [Sem.wp_bind'] at h1 ⊢
  refine Sem.wp_mono _ Γ _ (fun r p2 s2 h1=>?_) (fun e p2 s2 h1=>?_) p1 s1 h1
  ·cases r with
   | none=>
    have h1:Post S1 s (.ok .next) s2:=by
     have h2:Sem.wp _ Γ (Sem.pure (PySem.Fin.done .next)) _ _ p2 s2:=h1
     rw [Sem.wp] at h2
     exact h2
    obtain ⟨x,_,hr,_⟩:=h1
    rw [r1] at hr;cases hr
   | some v=>
    have h1:Post S1 s (.ok (.ret v)) s2:=by
     have h2:Sem.wp _ Γ (Sem.pure (PySem.Fin.done (.ret v))) _ _ p2 s2:=h1
     rw [Sem.wp] at h2
     exact h2
    obtain ⟨x,hx,hr,hlen,O1⟩:=h1
    have hv:v=.ref (a x):=by
     rw [r1] at hr
     injection hr with hr;injection hr
    subst hv
    rw [n1] at hlen O1
    have hlen:(S1.upd x).length=S.need.length:=by lia
    have hzs:s2.heap.get? z=some (zo x):=O1.gv _ (hz x)
    show Sem.wp _ Γ (letOwnedTupleGo (.Tuple es k1 tp) (.ref z) (.ref (a x))>>=fun _=>restT (.Tuple es k1 tp) (.ref z) (.ref (a x)) body orelse env) _ _ p2 s2
    rw [Sem.wp_bind']
    refine Sem.wp_mono _ Γ _ (fun _ p3 s3 h3=>?_) (fun _ _ _ h3=>h3.elim) p2 s2 (hgo x s2 (A.under Γ.code) (fun _ s3=>∃h',s3={s2 with heap:=h'}/\h'.get? z=some (zo2 x)/\Heap.SameBut z s2.heap h') (fun _ _=>False) hx hzs (fun h' hz' hb=>⟨h',rfl,hz',hb⟩) Γ p2 hΓ.in)
    obtain ⟨h',rfl,hz',hb⟩:=h3
    have keys2:(rezip S.need (u2 x)).map (·.1)=S.need.map (·.1):=rezip_len (ul x)
    have newNot:∀q∈S1.new x,q.1∉S.need.map (·.1):=fun q hq hm=>by
     obtain ⟨r,hr,e⟩:=List.mem_map.mp hm
     have e: @Eq Nat r.1 q.1:=e
     have lr: @LT.lt Nat _ r.1 s.heap.objs.size:=Heap.lt_size (need r hr)
     exact Nat.not_le_of_lt lr (Nat.le_trans (O1.nw q hq).2 (Nat.le_of_eq e.symm))
    have newZ:∀q∈S1.new x,q.1≠z:=fun q hq e=>newNot q hq (by rw [e];exact hzn)
    have need2:∀p∈(S2 x).need,h'.get? p.1=some p.2:=fun q hq=>by
     rw [n2] at hq
     rcases iA hq with hq | hq
     ·rcases hsel x nodup q hq with rfl | ⟨e,hq⟩
      ·exact hz'
      ·exact (hb.2 _ e).trans (O1.gv q hq)
     ·exact (hb.2 _ (newZ q hq)).trans (O1.nw q hq).1
    have maskNew:∀q∈S1.new x,Nat.testBit mask q.1=false:=fun q hq=>by
     cases h:Nat.testBit mask q.1 with
     | false=>rfl
     | true=>exact (Nat.not_le_of_lt (base.lt _ h) (O1.nw q hq).2).elim
    have msk2:∀p∈(S2 x).need,Nat.testBit mask p.1=false:=fun q hq=>by
     rw [n2] at hq
     rcases iA hq with hq | hq
     ·have:q.1∈S.need.map (·.1):=by rw [←keys2];exact List.mem_map_of_mem hq
      obtain ⟨r,hr,e⟩:=List.mem_map.mp this
      rw [←e];exact msk r hr
     ·exact maskNew q hq
    have base2:BaseOk mask w h':=by
     have hz0:Nat.testBit mask z=false:=by
      obtain ⟨r,hr,e⟩:=List.mem_map.mp hzn
      rw [←e];exact msk r hr
     have b1:BaseOk mask w s2.heap:=O1.base base fun b hh=>by
      obtain ⟨r,hr,e⟩:=List.mem_map.mp hh
      rw [←e];exact msk r hr
     exact ⟨fun b o hm e f=>(hb.2 b fun q=>(by rw [q,hz0] at hm;cases hm)).trans (b1.get b o hm e f),fun b hm=>by rw [hb.1];exact b1.lt b hm,b1.lim.at fun o ho=>(hb.2 _ fun q=>(by have:=b1.stat;rw [q,hz0] at this;cases this)).trans ho,b1.stat⟩
    have imm2:∀p∈(S2 x).imm,h'.get? p.1=some p.2/\p.1∉(S2 x).need.map (·.1):=fun q hq=>by
     rw [i2] at hq
     have hi:=imm q hq
     refine ⟨(hb.2 _ fun e=>hi.2 (by rw [e];exact hzn)).trans (O1.keep _ _ hi.1 hi.2),fun hm=>?_⟩
     rw [n2,List.map_append,keys2] at hm
     rcases iA hm with hm | hm
     ·exact hi.2 hm
     ·obtain ⟨r,hr,e⟩:=List.mem_map.mp hm
      have e: @Eq Nat r.1 q.1:=e
      have lr: @LT.lt Nat _ q.1 s.heap.objs.size:=Heap.lt_size hi.1
      exact Nat.not_le_of_lt lr (Nat.le_trans (O1.nw r hr).2 (Nat.le_of_eq e))
    have nodup2:((S2 x).need.map (·.1)).Nodup:=by
     rw [n2,List.map_append,keys2]
     refine List.nodup_append.mpr ⟨nodup,O1.nodup,fun b hb1 c hc1 e=>?_⟩
     obtain ⟨r,hr,e2⟩:=List.mem_map.mp hc1
     exact newNot r hr (by rw [e2,←e];exact hb1)
    have room2:RoomOk A (S2 x):=⟨room.handled,Nat.lt_of_le_of_lt (Nat.add_le_add_left (dd2 x) _) room.depth,Nat.lt_of_le_of_lt (Nat.add_le_add_left (uu2 x) _) room.units,fun e q=>(by rw [ee2] at q;cases q),room.frames,fun e q=>(by rw [ff2] at q;cases q)⟩
    have h2:=H2 x hx A {s2 with heap:=h'} room2 base2 need2 imm2 nodup2 msk2 (by rw [gg2];exact fun _ h=>nomatch h)
    rw [c2,hcode] at h2
    have h2:=h2 Γ p3 hc hΓ
    unfold tailT at h2
    rw [Sem.wp_onRaise] at h2
    have fin:∀r s',Post (S2 x) {s2 with heap:=h'} r s'->Post S s r s':=fun r s' hP=>by
     obtain ⟨y,hy,hr,hl,O2⟩:=post2 x _ r s' hP
     refine ⟨y,hy,hr,hl,?_⟩
     rw [n2,rezip_app (ul x) (by lia),List.map_append,keys2] at O2
     refine ⟨fun b o hbo hbn=>?_,O2.gv,fun q hq=>?_,fun q hq=>?_,O2.nodup,?_,O2.os.trans O1.os,fun hb=>O2.bare (O1.bare hb)⟩
     ·have hlt: @LT.lt Nat _ b s.heap.objs.size:=Heap.lt_size hbo
      refine O2.keep b o ((hb.2 _ fun e=>hbn (by rw [e];exact hzn)).trans (O1.keep b o hbo hbn)) fun hm=>?_
      rcases iA hm with hm | hm
      ·exact hbn hm
      ·obtain ⟨r,hr,e⟩:=List.mem_map.mp hm
       have e: @Eq Nat r.1 b:=e
       exact Nat.not_le_of_lt hlt (Nat.le_trans (O1.nw r hr).2 (Nat.le_of_eq e))
     ·have:=O2.nw q hq
      have hs2:h'.objs.size=s2.heap.objs.size:=hb.1
      have h3:h'.objs.size<=q.1:=this.2
      exact ⟨this.1,Nat.le_trans O1.size (Nat.le_trans (Nat.le_of_eq hs2.symm) h3)⟩
     ·have:=O2.gi q hq
      have hs2:h'.objs.size=s2.heap.objs.size:=hb.1
      have h3:h'.objs.size<=q.1:=this.2.1
      exact ⟨this.1,Nat.le_trans O1.size (Nat.le_trans (Nat.le_of_eq hs2.symm) h3),this.2.2⟩
     ·have hs2:h'.objs.size=s2.heap.objs.size:=hb.1
      have h3:h'.objs.size<=s'.heap.objs.size:=O2.size
      exact Nat.le_trans O1.size (Nat.le_trans (Nat.le_of_eq hs2.symm) h3)
    refine Sem.wp_mono _ Γ _ (fun f p4 s4 h4=>postC_mono fin h4) (fun e p4 s4 h4=>?_) p3 _ h2
    exact Sem.wp_mono _ Γ _ (fun _ p5 s5 h5=>fin _ _ h5) (fun _ p5 s5 h5=>fin _ _ h5) p4 s4 h4
  ·have h1:Post S1 s (.error e) s2:=h1
   obtain ⟨x,_,hr,_⟩:=h1
   rw [r1] at hr;cases hr
 ·obtain ⟨x,_,hr,_⟩:=h1
  rw [r1] at hr;cases hr
end Mine
lay_z Mine.headT
lay_z Mine.tailT
namespace Mine
noncomputable def isTupFor:Stmt->Bool
 | .For (.Tuple ..) _ _ _ _=>true
 | _=>false
noncomputable def forTgt:Stmt->Expr
 | .For t _ _ _ _=>t
 | _=>.Constant .none 0 ⟨0,0,0,0⟩
theorem tupFor {st:Stmt} (h:isTupFor st=true):∃es k tp,forTgt st=.Tuple es k tp/\∀it env,loopC st it env=.forLoop (.Tuple es k tp) it (partS st 0) (partS st 1) env:=by
 unfold isTupFor at h
 split at h
 ·exact ⟨_,_,_,rfl,fun _ _=>rfl⟩
 ·cases h
noncomputable def headS (S:Summ) (Res1:Type) (post1:Res1->Prop) (a:Res1->Nat) (upd1:Res1->List Obj) (new1:Res1->Led):Summ where
 code:=S.code
 need:=S.need
 imm:=S.imm
 Res:=Res1
 post:=post1
 res:=fun x=>.ok (.ret (.ref (a x)))
 upd:=upd1
 new:=new1
 d:=S.d
 u:=S.u
noncomputable def tailS (S:Summ) (os:List Obj) (nw:Led):Summ where
 code:=S.code
 need:=rezip S.need os++nw
 imm:=S.imm
 Res:=S.Res
 post:=S.post
 res:=S.res
 upd:=S.upd
 new:=S.new
 giveImm:=S.giveImm
 giv:=S.giv
 d:=S.d
 u:=S.u
 gneed:=[]
 gone:=S.gone+nw.length
def headZ (st:Stmt) (it:Value):Sem PySem.Fin:=PySem.W.ZFast.zw1006530560209335509 (forTgt st) it
def tailZ (st:Stmt) (it v:Value) (env:Env):Sem PySem.Fin:=PySem.W.ZFast.zw7205686946080444099 (forTgt st) it v (partS st 0) (partS st 1) env
noncomputable abbrev OwnT (w:World) (S:Summ) (T:Sem PySem.Fin):Prop:=∀A s,RoomOk A S->BaseOk mask w s.heap->(∀p∈S.need,s.heap.get? p.1=some p.2)->(∀p∈S.imm,s.heap.get? p.1=some p.2/\p.1∉S.need.map (·.1))->
   (S.need.map (·.1)).Nodup->(∀p∈S.need,Nat.testBit mask p.1=false)->(∀g∈S.gneed,s.gens[g.1]? =some (.fresh g.2))->
   wpOwn (model pw w) A S.code T (postC pw w A (Post S s)) (postE (Post S s)) s
theorem rezip_out {l:Led} {os:List Obj} (h:os.length=l.length):(rezip l os).length=l.length:=by
 have:=congrArg List.length (rezip_len h)
 simpa using this
theorem rezip_set {z:Nat} {o:Obj}:∀{l:Led} {os:List Obj} {j:Nat},os.length=l.length->(l.map (·.1)).Nodup->(l[j]?).map (·.1)=some z->∀p∈rezip l (os.set j o),p=(z,o)\/(p.1≠z/\p∈rezip l os)
 | [],_,_,_,_,h,_,_=>by simp at h
 | _::_,[],_,h,_,_,_,_=>by simp at h
 | q::l,o0::os,0,h,hn,hj,p,hp=>by
  have hq:q.1=z:=by simpa using hj
  have hp:p∈(q.1,o)::rezip l os:=hp
  rw [List.map_cons,List.nodup_cons] at hn
  rcases iC hp with rfl | hp
  ·left;rw [hq]
  ·right
   exact ⟨fun e=>hn.1 (by rw [hq,←e];exact rezip_key hp),.tail _ hp⟩
 | q::l,o0::os,j+1,h,hn,hj,p,hp=>by
  have hj:(l[j]?).map (·.1)=some z:=by simpa using hj
  have hp:p∈(q.1,o0)::rezip l (os.set j o):=hp
  rw [List.map_cons,List.nodup_cons] at hn
  have hz:z∈l.map (·.1):=by
   cases hh:l[j]? with
   | none=>rw [hh] at hj;cases hj
   | some r=>
    rw [hh] at hj
    have:r.1=z:=by simpa using hj
    rw [←this];exact List.mem_map_of_mem (List.mem_of_getElem? hh)
  rcases iC hp with rfl | hp
  ·right
   exact ⟨fun e=>hn.1 (by rw [show q.1=z from e];exact hz),.head _⟩
  ·rcases rezip_set (by simpa using h) hn.2 hj p hp with e | ⟨e,m⟩
   ·exact .inl e
   ·exact .inr ⟨e,.tail _ m⟩
theorem valid_turnX {w:World} {S:Summ} {st:Stmt} {z:Nat} {env:Env} {Res1:Type} {post1:Res1->Prop} {a:Res1->Nat} {upd1:Res1->List Obj} {new1:Res1->Led} (u2:Res1->List Obj) (zo zo2:Res1->Obj)
  (hst:isTupFor st=true) (hcode:S.code=loopC st (.ref z) env) (hg:S.gneed=[])
  (ul:∀x,(u2 x).length=S.need.length)
  (hgo:∀x (s:Shared) (A:Around) (Q:Unit->Shared->Prop) (E:Value->Shared->Prop) (es:List Expr) (k:Nat) (tp:Pos),s.heap.get? z=some (zo x)->(∀h',h'.get? z=some (zo2 x)->Heap.SameBut z s.heap h'->Q () {s with heap:=h'})->wpAny (model pw w) A (letOwnedTupleGo (.Tuple es k tp) (.ref z) (.ref (a x))) Q E s)
  (hz:∀x,(z,zo x)∈rezip S.need (upd1 x)) (j:Nat) (hj:(S.need[j]?).map (·.1)=some z) (hu2:∀x,u2 x=(upd1 x).set j (zo2 x)) (hzn:z∈S.need.map (·.1))
  (H1:OwnT w (headS S Res1 post1 a upd1 new1) (headZ st (.ref z)))
  (H2:∀x,post1 x->OwnT w (tailS S (u2 x) (new1 x)) (tailZ st (.ref z) (.ref (a x)) env)):Vd w S:=by
 obtain ⟨es,k,tp,he,hl⟩:=tupFor hst
 refine valid_turn (S:=S) (es:=es) (k1:=k) (tp:=tp) (z:=z) (body:=partS st 0) (orelse:=partS st 1) (env:=env) (headS S Res1 post1 a upd1 new1) a u2 (fun x=>tailS S (u2 x) (new1 x)) zo zo2 (by rw [hcode,hl]) hg
  rfl rfl rfl rfl rfl (Nat.le_refl _) (Nat.le_refl _) rfl rfl (fun _=>rfl) (fun _=>rfl) (fun _=>rfl) (fun _=>rfl) (fun _=>rfl) (fun _=>rfl) (fun _=>rfl) (fun _=>Nat.le_refl _) (fun _=>Nat.le_refl _) (fun _=>rfl) (fun _=>rfl) ul ?_ ?_ hz ?_ hzn ?_ ?_
 ·intro x s r s' h
  obtain ⟨y,hy,hr,hlen,O⟩:=h
  refine ⟨y,hy,hr,?_,O⟩
  have h1:(S.upd y).length+(S.gone+(new1 x).length)=(rezip S.need (u2 x)++new1 x).length:=hlen
  rw [List.length_append,rezip_out (ul x)] at h1
  lia
 ·intro x s A Q E _ hzs hQ
  exact hgo x s A Q E es k tp hzs hQ
 ·intro (x:Res1) hn p hp
  rw [hu2] at hp
  exact rezip_set (by have:=ul x;rw [hu2,List.length_set] at this;exact this) hn hj p hp
 ·have h:=H1
  unfold headZ at h
  rw [←PySem.W.ZFast.ze1006530560209335509,he] at h
  exact h
 ·intro x hx
  have h:=H2 x hx
  unfold tailZ at h
  rw [←PySem.W.ZFast.ze7205686946080444099,he] at h
  exact h
theorem go_zip {w:World} {z TI TO:Nat} (a:Nat) (s:Shared) (A:Around) (Q:Unit->Shared->Prop) (E:Value->Shared->Prop) (es:List Expr) (k:Nat) (tp:Pos)
  (h:s.heap.get? z=some {cls:=.type "zip",data:=.fields #[.int (Int.ofNat a) 0,.bool false,.bool false,.ref TI,.ref TO]})
  (hQ:∀h',h'.get? z=some {cls:=.type "zip",data:=.fields #[.none,.bool false,.bool false,.ref TI,.ref TO]}->Heap.SameBut z s.heap h'->Q () {s with heap:=h'}):wpAny (model pw w) A (letOwnedTupleGo (.Tuple es k tp) (.ref z) (.ref a)) Q E s:=
 wpAny_letOwnedTupleGo_zip (T:=a) h fun h' g b=>hQ h' g b
theorem go_enum {w:World} {z it:Nat} {i:Int} {v:Value} (a:Nat) (s:Shared) (A:Around) (Q:Unit->Shared->Prop) (E:Value->Shared->Prop) (es:List Expr) (k:Nat) (tp:Pos)
  (h:s.heap.get? z=some {cls:=.type "enumerate",data:=.fields #[.int (Int.ofNat a) 0,.bool false,.ref it,.int i 0,.none,v]})
  (hQ:∀h',h'.get? z=some {cls:=.type "enumerate",data:=.fields #[.none,.bool false,.ref it,.int i 0,.none,v]}->Heap.SameBut z s.heap h'->Q () {s with heap:=h'}):wpAny (model pw w) A (letOwnedTupleGo (.Tuple es k tp) (.ref z) (.ref a)) Q E s:=
 wpAny_letOwnedTupleGo_enum (a:=a) h fun h' g b=>hQ h' g b
section
variable (w:World) (R:FmtR) (C:LC) (xs:LV) (f:LN) (tf:Nat) (p:LN) (tp:Nat) (ep tn:Nat) (ls:LV) (el:Nat) (tb1 tb2:ON)
def sAppNX:Summ where
 code:=.call (.ref 120) ⟨[.ref R.fx,.str (st f) tf,.str (st p) tp],[]⟩
 need:=fmtLed w R xs ep tn ls el tb1 tb2
 imm:=accLed C
 Res:=Nat×Nat×Nat
 res:=fun x=>.ok (.ret .none)
 upd:=fun x=>(fmtLed w R (xs++[Value.ref x.1]) x.2.1 tn ls el (some x.2.2) tb2).map (·.2)
 giveImm:=fun x=>[(x.1,tup2 f tf p tp)]
 giv:=true
 d:=90
 u:=180
def sAppBX (i:Nat) (tx:LN):Summ where
 code:=.call (.ref 120) ⟨[.ref R.fx,.str (st f) tf,.str (st p) tp],[]⟩
 need:=fmtLed w R xs ep tn ls el tb1 tb2
 imm:=accLed C
 Res:=Nat×Nat×Nat×Nat×Nat×Nat×Nat
 res:=fun x=>.ok (.ret .none)
 upd:=fun x=>(fmtLed w R ((xs++[Value.ref x.1]).drop i) x.2.1 x.2.2.1 (ls++[.str (st tx) x.2.2.2.1]) x.2.2.2.2.1 (some x.2.2.2.2.2.1) (some x.2.2.2.2.2.2)).map (·.2)
 giveImm:=fun x=>[(x.1,tup2 f tf p tp)]
 giv:=true
 d:=90
 u:=180
end
section
variable {w:World} (R:FmtR) (C:LC) {xs:LV} (f:LN) (tf:Nat) (p:LN) (tp:Nat) {ep tn:Nat} {ls:LV} {el:Nat} {tb1 tb2:ON}
theorem sAppNX_valid (hx:xs=accXs C) (hsg:R.sg=32\/R.sg=9) (hC:∀c∈C,PartOk R.sg c) (hc:PartOk R.sg (ck 0 f tf p tp)) (hn:C.length<=40000) (hl:accLen C<=40000) (hfp:f.length+p.length<=40000)
  (hh:Int.ofNat (accLen C+(f.length+p.length))<=R.wd\/brk R.sg (C++[ck 0 f tf p tp]) C.length=none):Vd w (sAppNX w R C xs f tf p tp ep tn ls el tb1 tb2):=by
 subst hx
 exact sAppN_valid w R C f tf p tp ep tn ls el tb1 tb2 hsg hC hc hn hl hfp hh
theorem sAppBX_valid (i:Nat) {tx:LN} (hx:xs=accXs C) (htx:tx=accTx (C.take i)) (hsg:R.sg=32\/R.sg=9) (hC:∀c∈C,PartOk R.sg c) (hc:PartOk R.sg (ck 0 f tf p tp)) (hn:C.length<=40000) (hl:accLen C<=40000) (hfp:f.length+p.length<=40000) (hls:ls.length<=50000)
  (hg:Int.ofNat (accLen C+(f.length+p.length))>R.wd) (hb:brk R.sg (C++[ck 0 f tf p tp]) C.length=some i):Vd w (sAppBX w R C xs f tf p tp ep tn ls el tb1 tb2 i tx):=by
 subst hx htx
 exact sAppB_valid w R C f tf p tp ep tn ls el tb1 tb2 i hsg hC hc hn hl hfp hls hg hb
end
structure SplR where
 F:Nat
 it:Nat
 z:Nat
 TI:Nat
 TO:Nat
 P:Nat
 q:Nat->Nat
noncomputable def zipO (TI TO:Nat):Obj:={cls:=.type "zip",data:=.fields #[.none,.bool false,.bool false,.ref TI,.ref TO]}
section
variable (w:World) (R:FmtR) (Z:SplR) (fv sv cv:Value)
def spF5:Obj:=frameO w [("self",Z.q 0,.ref R.fx),("fws",Z.q 1,fv),("string",Z.q 2,sv),("splitchars",Z.q 3,cv),("parts",Z.q 4,.ref Z.P)] 5
def spF6 (qp:Nat) (pv:Value):Obj:=frameO w [("self",Z.q 0,.ref R.fx),("fws",Z.q 1,fv),("string",Z.q 2,sv),("splitchars",Z.q 3,cv),("parts",Z.q 4,.ref Z.P),("part",qp,pv)] 6
end
def zC (w:World) (Z:SplR):Code:=loopC (atS (fnBody w 113) 2 []) (.ref Z.z) (fnEnv w 113 Z.F [])
def zLed (w:World) (R:FmtR) (Z:SplR) (fo:Obj) (vs:LV) (epP i:Nat) (a b:Value):Led:=
 [(Z.F,fo),(Z.it,iterO Z.P i),(Z.P,seqL (.type "list") none vs epP),(Z.z,zipO Z.TI Z.TO),(Z.TI,tup [.ref Z.it,.ref Z.it]),(Z.TO,tup [a,b])]
structure ZRes where
 C:LC
 nws:LC
 xs:LV
 ep:Nat
 tn:Nat
 ls:LV
 el:Nat
 tb1:ON
 tb2:ON
 fo:Obj
 ie:Nat
 to:Obj
def sZ (w:World) (R:FmtR) (Z:SplR) (fo:Obj) (C:LC) (xs:LV) (ep tn:Nat) (ls:LV) (el:Nat) (tb1 tb2:ON) (vs:LV) (epP i:Nat) (a b:Value) (post:ZRes->Prop):Summ where
 code:=zC w Z
 need:=fmtLed w R xs ep tn ls el tb1 tb2++zLed w R Z fo vs epP i a b
 imm:=accLed C
 Res:=ZRes
 post:=post
 res:=fun x=>.ok .next
 upd:=fun x=>(fmtLed w R x.xs x.ep x.tn x.ls x.el x.tb1 x.tb2).map (·.2)++[x.fo,iterE x.ie,seqL (.type "list") none vs epP,zipO Z.TI Z.TO,tup [.ref Z.it,.ref Z.it],x.to]
 giveImm:=fun x=>accLed x.nws
 giv:=true
 d:=110
 u:=220
noncomputable def zipX (TI TO a:Nat):Obj:={cls:=.type "zip",data:=.fields #[.int (Int.ofNat a) 0,.bool false,.bool false,.ref TI,.ref TO]}
def zLedX (w:World) (R:FmtR) (Z:SplR) (fo:Obj) (vs:LV) (epP i:Nat) (zo:Obj) (a b:Value):Led:=
 [(Z.F,fo),(Z.it,iterO Z.P i),(Z.P,seqL (.type "list") none vs epP),(Z.z,zo),(Z.TI,tup [.ref Z.it,.ref Z.it]),(Z.TO,tup [a,b])]
def stZ (w:World):Stmt:=atS (fnBody w 113) 2 []
section
variable (w:World) (R:FmtR) (Z:SplR) (fo:Obj)
def zUpd (xs:LV) (ep tn:Nat) (ls:LV) (el:Nat) (tb1 tb2:ON) (vs:LV) (epP i:Nat) (zo:Obj) (a b:Value):List Obj:=
 (fmtLed w R xs ep tn ls el tb1 tb2++zLedX w R Z fo vs epP i zo a b).map (·.2)
def sZT (C:LC) (xs:LV) (ep tn:Nat) (ls:LV) (el:Nat) (tb1 tb2:ON) (vs:LV) (epP i:Nat) (a b:Value) (post:ZRes->Prop) (v1 v2:Value) (x:Nat):Summ:=
 tailS (sZ w R Z fo C xs ep tn ls el tb1 tb2 vs epP i a b post) (zUpd w R Z fo xs ep tn ls el tb1 tb2 vs epP (i+1+1) (zipO Z.TI Z.TO) v1 v2) [(x,tup [v1,v2])]
end
noncomputable abbrev Pc:=LN×LN
noncomputable def Chunk.pc (c:Chunk):Pc:=(c.f,c.p)
noncomputable def pLen (L:List Pc):Nat:=(L.map fun c=>c.1.length+c.2.length).sum
noncomputable def pTx (L:List Pc):LN:=L.flatMap fun c=>c.1++c.2
noncomputable def brkP (sg:Nat) (L:List Pc):Nat->ON
 | 0=>none
 | k+1=>if (L[k+1]?.map fun c=>c.1.head?)=some (some sg) then some (k+1) else brkP sg L k
noncomputable def feed (sg:Nat) (wd:Int) (L:List Pc) (c:Pc):List Pc×List LN:=
 if Int.ofNat (pLen L+(c.1.length+c.2.length))>wd then
  match brkP sg (L++[c]) L.length with
  | some i=>((L++[c]).drop i,[pTx (L.take i)])
  | none=>(L++[c],[])
 else (L++[c],[])
noncomputable def feeds (sg:Nat) (wd:Int):List Pc->List Pc->List Pc×List LN
 | L,[]=>(L,[])
 | L,c::cs=>((feeds sg wd (feed sg wd L c).1 cs).1,(feed sg wd L c).2++(feeds sg wd (feed sg wd L c).1 cs).2)
theorem brk_pc (sg:Nat) (C:LC):∀k,brk sg C k=brkP sg (C.map Chunk.pc) k:=by
 intro k
 induction k with
 | zero=>rfl
 | succ k ih=>
  have e:(C[k+1]?.map fun c=>c.f.head?)=((C.map Chunk.pc)[k+1]?.map fun c=>c.1.head?):=by
   rw [List.getElem?_map];cases C[k+1]? <;>rfl
  rw [brk_succ,e,ih];rfl
theorem accLen_pc (C:LC):accLen C=pLen (C.map Chunk.pc):=by
 unfold accLen pLen;rw [List.map_map];rfl
theorem accTx_pc (C:LC):accTx C=pTx (C.map Chunk.pc):=by
 unfold accTx pTx;rw [List.flatMap_map];rfl
def PcOk (sg:Nat) (c:Pc):Prop:=c.1.length<=100000/\c.2.length<=100000/\∃lc,c.2.getLast?=some lc/\lc≠sg
structure PostZ (sg:Nat) (wd:Int) (C:LC) (ls:LV) (rest:List Pc) (y:ZRes):Prop where
 xs:y.xs=accXs y.C
 pcs:y.C.map Chunk.pc=(feeds sg wd (C.map Chunk.pc) rest).1
 lines:∃nl:List (LN×Nat),y.ls=ls++lineVs nl/\nl.map (·.1)=(feeds sg wd (C.map Chunk.pc) rest).2
 nws:∀c∈y.C,c∈C\/c∈y.nws
noncomputable abbrev PcT:=(LN×Nat)×(LN×Nat)
def pcVs (its:List PcT):LV:=its.flatMap fun c=>[.str (st c.1.1) c.1.2,.str (st c.2.1) c.2.2]
noncomputable def PcT.pc (c:PcT):Pc:=(c.1.1,c.2.1)
theorem Out.sub {s s':Shared} {mods:LN} {lv ln li li':Led} (O:Out s s' mods lv ln li) (h:∀x∈li',x∈li):Out s s' mods lv ln li':=⟨O.keep,O.gv,O.nw,fun p hp=>O.gi p (h p hp),O.nodup,O.size,O.os,O.bare⟩
theorem isTup113 {w:World}:isTupFor (stZ w)=true:=by kernel_rfl
theorem bump {a b c K:Nat} (h:b<=a+1) (k:a+(c+1)<=K):b+c<=K:=Nat.le_trans (Nat.add_le_add_right h c) (by rw [Nat.add_assoc,Nat.add_comm 1 c];exact k)
theorem bump2 {a b c d K:Nat} (h:b<=a+c) (k:a+(c+d)<=K):b+d<=K:=Nat.le_trans (Nat.add_le_add_right h d) (by rw [Nat.add_assoc];exact k)
theorem feed_len (sg:Nat) (wd:Int) (L:List Pc) (c:Pc):pLen (feed sg wd L c).1<=pLen L+(c.1.length+c.2.length)/\(feed sg wd L c).1.length<=L.length+1/\(∀d∈(feed sg wd L c).1,d∈L\/d=c)/\(feed sg wd L c).2.length<=1:=by
 have e:pLen (L++[c])=pLen L+(c.1.length+c.2.length):=by simp [pLen]
 have ed:∀i,pLen ((L++[c]).drop i)<=pLen (L++[c]):=fun i=>by
  have:pLen (L++[c])=pLen ((L++[c]).take i)+pLen ((L++[c]).drop i):=by
   conv=>lhs;rw [←List.take_append_drop i (L++[c])]
   simp only [pLen,List.map_append,List.sum_append]
  rw [this];exact Nat.le_add_left _ _
 have m:∀d∈L++[c],d∈L\/d=c:=fun d hd=>by simpa using hd
 unfold feed
 split
 ·split
  ·rename_i i _
   refine ⟨?_,?_,fun d hd=>m d (List.mem_of_mem_drop hd),by simp⟩
   ·show pLen ((L++[c]).drop i)<=_
    exact Nat.le_trans (ed i) (Nat.le_of_eq e)
   ·show ((L++[c]).drop i).length<=_
    simp
  ·exact ⟨Nat.le_of_eq e,by simp,m,by simp⟩
 ·exact ⟨Nat.le_of_eq e,by simp,m,by simp⟩
theorem vs_items {vs:LV} {i:Nat} {f p:LN} {tf tp:Nat} {its:List PcT} (h:vs.drop i=pcVs (((f,tf),(p,tp))::its)):vs[i]? =some (.str (st f) tf)/\vs[i+1]? =some (.str (st p) tp)/\vs.drop (i+1+1)=pcVs its:=by
 have e:vs.drop i=.str (st f) tf::.str (st p) tp::pcVs its:=h
 refine ⟨?_,?_,?_⟩
 ·have:=congrArg (·[0]?) e;simpa [List.getElem?_drop] using this
 ·have:=congrArg (·[1]?) e;simpa [List.getElem?_drop] using this
 ·have:=congrArg (List.drop 2) e
  rw [List.drop_drop] at this
  simpa [Nat.add_assoc] using this
theorem sZ_turn (w:World) (R:FmtR) (Z:SplR) {fo:Obj} (C:LC) (xs:LV) (ep tn:Nat) (ls:LV) (el:Nat) (tb1 tb2:ON) (vs:LV) (epP i:Nat) (a b:Value) {post:ZRes->Prop} (f:LN) (tf:Nat) (p:LN) (tp:Nat) (h1:vs[i]? =some (.str (st f) tf)) (h2:vs[i+1]? =some (.str (st p) tp))
  (H:∀T,OwnT w (sZT w R Z fo C xs ep tn ls el tb1 tb2 vs epP i a b post (.str (st f) tf) (.str (st p) tp) T) (tailZ (stZ w) (.ref Z.z) (.ref T) (fnEnv w 113 Z.F []))):
  Vd w (sZ w R Z fo C xs ep tn ls el tb1 tb2 vs epP i a b post):=by
 refine valid_turnX (w:=w) (S:=sZ w R Z fo C xs ep tn ls el tb1 tb2 vs epP i a b post) (st:=stZ w) (z:=Z.z) (env:=fnEnv w 113 Z.F [])
  (Res1:=Nat) (post1:=fun _=>True) (a:=id) (upd1:=fun x=>zUpd w R Z fo xs ep tn ls el tb1 tb2 vs epP (i+1+1) (zipX Z.TI Z.TO x) (.str (st f) tf) (.str (st p) tp)) (new1:=fun x=>[(x,tup [.str (st f) tf,.str (st p) tp])])
  (fun _=>zUpd w R Z fo xs ep tn ls el tb1 tb2 vs epP (i+1+1) (zipO Z.TI Z.TO) (.str (st f) tf) (.str (st p) tp)) (fun x=>zipX Z.TI Z.TO x) (fun _=>zipO Z.TI Z.TO)
  (isTup113) rfl rfl (fun _=>rfl) (fun x s A Q E es k tp h hQ=>go_zip x s A Q E es k tp h hQ) (fun x=>?_) 10 rfl (fun _=>rfl) ?_ ?_ (fun x _=>H x)
 ·simp [sZ,zUpd,fmtLed,zLed,zLedX,rezip]
 ·simp [sZ,fmtLed,zLed]
 ·clear H
  revert w
  refine vRowT (fun w=>headZ (stZ w) (.ref Z.z)) [] roNil ?_ ?_
  ·exact fun w s N0 t0 G_ D_ I_=>
    .u 0x107800078240902409027090240002400024 (sItN Z.it Z.P i (Value.type "list") none vs epP (.str (st f) tf)) [24,27] [] (sItN_valid h1) tt fun x1 N1 t1=>
    .u 0x41e0001e0a82a0a82a (sItN Z.it Z.P (i+1) (Value.type "list") none vs epP (.str (st p) tp)) [24,27] [] (sItN_valid h2) tt fun x2 N2 t2=>
    endQ D_ 0x1024090240902a0a82a0a82a N2 [0,3,6,9,12,15,18,21,24,27,30,33,36] [2] [] fun s' O=>⟨N2,trivial,rfl,rfl,O⟩
  kernel_rfl
theorem sZE_valid (w:World) (R:FmtR) (Z:SplR) (fv sv cv pv:Value) (qp:Nat) (C:LC) (ep tn:Nat) (ls:LV) (el:Nat) (tb1 tb2:ON) (vs:LV) (epP i:Nat) (a b:Value) (hi:vs.drop i=[]):
  Vd w (sZ w R Z (spF6 w R Z fv sv cv qp pv) C (accXs C) ep tn ls el tb1 tb2 vs epP i a b (PostZ R.sg R.wd C ls [])):=by
 have hl:vs.length<=i:=by simpa using hi
 revert w
 refine vRow ?_ ?_
 ·refine fun w s N0 t0 G_ D_ I_=>
   .u 0x41e0001e090240902409c24090000900009000 (sItE Z.it Z.P i (Value.type "list") none vs epP) [24,27] [] (sItE_valid hl) tt fun x1 N1 t1=>
   endQ D_ 0x40000709024 (⟨C,[],(accXs C),ep,tn,ls,el,tb1,tb2,spF6 w R Z fv sv cv qp pv,i,tup [a,b]⟩:ZRes) [0,3,6,9,12,15,18,21,24,27,30,33,36] [] [] fun s' O=>⟨(⟨C,[],accXs C,ep,tn,ls,el,tb1,tb2,spF6 _ R Z fv sv cv qp pv,i,tup [a,b]⟩:ZRes),⟨rfl,rfl,⟨[],by simp [lineVs],rfl⟩,fun c hc=>.inl hc⟩,rfl,rfl,?_⟩
  exact O.sub (fun x hx=>nomatch hx)
 kernel_rfl
theorem PostZ.step {sg:Nat} {wd:Int} {C C':LC} {ls ls':LV} {c:Chunk} {rest:List Pc} {y:ZRes} (P:PostZ sg wd C' ls' rest y) (hf:C'.map Chunk.pc=(feed sg wd (C.map Chunk.pc) c.pc).1)
  (hl:∃nl:List (LN×Nat),ls'=ls++lineVs nl/\nl.map (·.1)=(feed sg wd (C.map Chunk.pc) c.pc).2) (hm:∀d∈C',d∈C\/d=c) {y':ZRes} (e1:y'.C=y.C) (e2:y'.nws=c::y.nws) (e3:y'.xs=y.xs) (e4:y'.ls=y.ls):PostZ sg wd C ls (c.pc::rest) y':=by
 obtain ⟨nl,h1,h2⟩:=hl
 obtain ⟨nl',h3,h4⟩:=P.lines
 refine ⟨by rw [e3,e1];exact P.xs,by rw [e1,P.pcs,hf];rfl,⟨nl++nl',by rw [e4,h3,h1];simp [lineVs],?_⟩,fun d hd=>?_⟩
 ·rw [List.map_append,h2,h4,hf];rfl
 ·rw [e1] at hd
  rw [e2]
  rcases P.nws d hd with h | h
  ·rcases hm d h with h | rfl
   ·exact .inl h
   ·exact .inr (.head _)
  ·exact .inr (.tail _ h)
def zPB (R:FmtR) (C:LC) (ls:LV) (k:Nat) (f:LN) (tf:Nat) (p:LN) (tp:Nat) (rest:List Pc):Nat->Nat->ZRes->Prop:=fun x tk=>PostZ R.sg R.wd ((C++[ck x f tf p tp]).drop k) (ls++[Value.str (st (accTx (C.take k))) tk]) rest
def zPN (R:FmtR) (C:LC) (ls:LV) (f:LN) (tf:Nat) (p:LN) (tp:Nat) (rest:List Pc):Nat->ZRes->Prop:=fun x=>PostZ R.sg R.wd (C++[ck x f tf p tp]) ls rest
theorem sZ_valid (R:FmtR) (Z:SplR) (sv cv:Value) (qp epP:Nat) (vs:LV) (hsg:R.sg=32\/R.sg=9):∀(its:List PcT) (w:World) (C:LC) (fv pv:Value) (ep tn:Nat) (ls:LV) (el:Nat) (tb1 tb2:ON) (i:Nat) (a b:Value),
  vs.drop i=pcVs its->(∀c∈C,PartOk R.sg c)->(∀c∈its,PcOk R.sg c.pc)->C.length+its.length<=40000->accLen C+pLen (its.map PcT.pc)<=40000->ls.length+its.length<=50000->
  Vd w (sZ w R Z (spF6 w R Z fv sv cv qp pv) C (accXs C) ep tn ls el tb1 tb2 vs epP i a b (PostZ R.sg R.wd C ls (its.map PcT.pc))):=by
 intro its
 induction its with
 | nil=>intro w C fv pv ep tn ls el tb1 tb2 i a b hv _ _ _ _ _;exact sZE_valid w R Z fv sv cv pv qp C ep tn ls el tb1 tb2 vs epP i a b hv
 | cons c its ih=>
  intro w C fv pv ep tn ls el tb1 tb2 i a b hv hC hits hn hl hls
  obtain ⟨⟨f,tf⟩,⟨p,tp⟩⟩:=c
  obtain ⟨v1,v2,v3⟩:=vs_items hv
  have hc:PcOk R.sg (f,p):=hits _ (.head _)
  have hn:C.length+(its.length+1)<=40000:=hn
  have hls:ls.length+(its.length+1)<=50000:=hls
  have hl:accLen C+(f.length+p.length+pLen (its.map PcT.pc))<=40000:=by
   have:pLen ((((f,tf),(p,tp))::its).map PcT.pc)=f.length+p.length+pLen (its.map PcT.pc):=by simp [pLen,PcT.pc]
   rw [this] at hl;exact hl
  have cb1:C.length<=40000:=Nat.le_trans (Nat.le_add_right _ _) hn
  have cb2:accLen C<=40000:=Nat.le_trans (Nat.le_add_right _ _) hl
  have cb3:f.length+p.length<=40000:=Nat.le_trans (Nat.le_add_right _ _) (Nat.le_trans (Nat.le_add_left _ _) hl)
  have hfl:=feed_len R.sg R.wd (C.map Chunk.pc) (f,p)
  refine sZ_turn w R Z C (accXs C) ep tn ls el tb1 tb2 vs epP i a b f tf p tp v1 v2 fun T=>?_
  have recOk:∀(w:World) (C':LC) (fv pv:Value) (ep tn:Nat) (ls':LV) (el:Nat) (tb1 tb2:ON) (a b:Value),C'.map Chunk.pc=(feed R.sg R.wd (C.map Chunk.pc) (f,p)).1->(∀c∈C',PartOk R.sg c)->ls'.length<=ls.length+1->
    Vd w (sZ w R Z (spF6 w R Z fv sv cv qp pv) C' (accXs C') ep tn ls' el tb1 tb2 vs epP (i+1+1) a b (PostZ R.sg R.wd C' ls' (its.map PcT.pc))):=fun w C' fv pv ep tn ls' el tb1 tb2 a b hf hC' hls'=>by
   refine ih w C' fv pv ep tn ls' el tb1 tb2 (i+1+1) a b v3 hC' (fun c hc=>hits c (.tail _ hc)) ?_ ?_ (bump hls' hls)
   ·have h1:C'.length=(feed R.sg R.wd (C.map Chunk.pc) (f,p)).1.length:=by rw [←hf];simp
    have h2:=hfl.2.1
    simp only [List.length_map] at h2
    exact bump (Nat.le_trans (Nat.le_of_eq h1) h2) hn
   ·rw [accLen_pc,hf]
    have:=hfl.1
    rw [←accLen_pc] at this
    simp only at this
    exact bump2 this hl
  have hparts:∀a,∀d∈C++[ck a f tf p tp],PartOk R.sg d:=fun a d hd=>by
   rcases iA hd with h | h
   ·exact hC d h
   ·rcases iC h with rfl | h
    ·exact hc
    ·cases h
  have hmap:∀a,(C++[ck a f tf p tp]).map Chunk.pc=C.map Chunk.pc++[(f,p)]:=fun a=>by simp [ck,Chunk.pc]
  by_cases hg:Int.ofNat (accLen C+(f.length+p.length))>R.wd
  ·cases hb:brkP R.sg (C.map Chunk.pc++[(f,p)]) (C.map Chunk.pc).length with
   | some k=>
    have hb':∀a,brk R.sg (C++[ck a f tf p tp]) C.length=some k:=fun a=>by rw [brk_pc,hmap,←hb];simp
    have hk:=brk_le _ _ _ _ (hb' 0)
    have hfeed:feed R.sg R.wd (C.map Chunk.pc) (f,p)=((C.map Chunk.pc++[(f,p)]).drop k,[pTx ((C.map Chunk.pc).take k)]):=by
     unfold feed;rw [←accLen_pc,if_pos hg,hb]
    have hxd:∀a,(accXs C++[Value.ref a]).drop k=accXs ((C++[ck a f tf p tp]).drop k):=fun a=>by
     rw [show accXs C++[Value.ref a]=accXs (C++[ck a f tf p tp]) from (accXs_app C (ck a f tf p tp)).symm];unfold accXs;rw [List.map_drop]
    revert w
    refine vRowT (fun w=>tailZ (stZ w) (.ref Z.z) (.ref T) (fnEnv w 113 Z.F [])) [] roNil ?_ ?_
    ·refine fun w s N0 t0 G_ D_ I_=>
      .use 0x10001b06c090180000000000060000000006000000000606c1b06c1b06c0e020080b4080200002000020080202d020080000800008020080b4080200002000020080002d0002d0b42d (sAppBX w R C (accXs C) f tf p tp ep tn ls el tb1 tb2 k (accTx (C.take k))) [0,3,6,9,12,15,18] [] [] (sAppBX_valid R C f tf p tp k rfl rfl hsg hC hc cb1 cb2 cb3 (Nat.le_trans (Nat.le_add_right _ _) hls) hg (hb' 0)) (inJ I_) fun x3 N3 t3 _=>
      .use 0x1 (sZ w R Z (spF6 w R Z (Value.str (st f) tf) sv cv qp (Value.str (st p) tp)) (List.drop k (C++[ck x3.fst f tf p tp])) (List.drop k ((accXs C)++[Value.ref x3.fst])) x3.snd.fst x3.snd.snd.fst (ls++[Value.str (st (accTx (C.take k))) x3.snd.snd.snd.fst]) x3.snd.snd.snd.snd.fst (some x3.snd.snd.snd.snd.snd.fst) (some x3.snd.snd.snd.snd.snd.snd) vs epP (i+1+1) (Value.str (st f) tf) (Value.str (st p) tp) ((zPB R C ls k f tf p tp (its.map PcT.pc)) x3.fst x3.snd.snd.snd.fst)) [0,3,6,9,12,15,18,21,24,27,30,33,36] [] [] (?_) (inW D_ (?_)) fun x4 N4 t4 h4=>
      endQ D_ 0x4 (⟨x4.C,ck x3.1 f tf p tp::x4.nws,x4.xs,x4.ep,x4.tn,x4.ls,x4.el,x4.tb1,x4.tb2,x4.fo,x4.ie,x4.to⟩:ZRes) [0,3,6,9,12,15,18,21,24,27,30,33,36] [] [] fun s' O=>?_
     ·rw [hxd]
      exact recOk _ _ _ _ _ _ _ _ _ _ _ _ (by rw [List.map_drop,hmap,hfeed]) (fun d hd=>hparts _ d (List.mem_of_mem_drop hd)) (by simp)
     ·intro q hq
      obtain ⟨d,hd,rfl⟩:=List.mem_map.mp hq
      rcases iA (List.mem_of_mem_drop hd) with h | h
      ·exact .inl (List.mem_map_of_mem h)
      ·rcases iC h with rfl | h
       ·exact .inr (.head _)
       ·cases h
     ·refine ⟨(⟨x4.C,ck x3.1 f tf p tp::x4.nws,x4.xs,x4.ep,x4.tn,x4.ls,x4.el,x4.tb1,x4.tb2,x4.fo,x4.ie,x4.to⟩:ZRes),?_,rfl,rfl,O.sub fun q hq=>?_⟩
      ·refine PostZ.step (c:=ck x3.1 f tf p tp) h4 (by rw [List.map_drop,hmap];exact (congrArg Prod.fst hfeed).symm) ⟨[(accTx (C.take k),x3.2.2.2.1)],rfl,?_⟩ (fun d hd=>?_) rfl rfl rfl rfl
       ·show [accTx (C.take k)]=_
        rw [show (ck x3.1 f tf p tp).pc=(f,p) from rfl,hfeed,accTx_pc,List.map_take]
       ·rcases iA (List.mem_of_mem_drop hd) with h | h
        ·exact .inl h
        ·exact .inr (by simpa using h)
      ·have hq:q∈(ck x3.1 f tf p tp).led::accLed x4.nws:=hq
       rcases iC hq with rfl | hq
       ·exact iL (iL (iL (iR (.head _))))
       ·exact iL (iR hq)
    kernel_rfl
   | none=>
    have hfeed:feed R.sg R.wd (C.map Chunk.pc) (f,p)=(C.map Chunk.pc++[(f,p)],[]):=by
     unfold feed;rw [←accLen_pc,if_pos hg,hb]
    revert w
    refine vRowT (fun w=>tailZ (stZ w) (.ref Z.z) (.ref T) (fnEnv w 113 Z.F [])) [] roNil ?_ ?_
    ·refine fun w s N0 t0 G_ D_ I_=>
      .use 0x10001b06c090180000000000060000000006000000000606c1b06c1b06c0e020080b4080200002000020080202d020080000800008020080b4080200002000020080002d0002d0b42d (sAppNX w R C (accXs C) f tf p tp ep tn ls el tb1 tb2) [0,3,6,9,12,15,18] [] [] (sAppNX_valid R C f tf p tp rfl hsg hC hc cb1 cb2 cb3 (.inr (by rw [brk_pc,hmap,←hb];simp))) (inJ I_) fun x3 N3 t3 _=>
      .use 0x1 (sZ w R Z (spF6 w R Z (Value.str (st f) tf) sv cv qp (Value.str (st p) tp)) (C++[ck x3.fst f tf p tp]) ((accXs C)++[Value.ref x3.fst]) x3.snd.fst tn ls el (some x3.snd.snd) tb2 vs epP (i+1+1) (Value.str (st f) tf) (Value.str (st p) tp) ((zPN R C ls f tf p tp (its.map PcT.pc)) x3.fst)) [0,3,6,9,12,15,18,21,24,27,30,33,36] [] [] (?_) (inW D_ (?_)) fun x4 N4 t4 h4=>
      endQ D_ 0x4 (⟨x4.C,ck x3.1 f tf p tp::x4.nws,x4.xs,x4.ep,x4.tn,x4.ls,x4.el,x4.tb1,x4.tb2,x4.fo,x4.ie,x4.to⟩:ZRes) [0,3,6,9,12,15,18,21,24,27,30,33,36] [] [] fun s' O=>?_
     ·rw [show accXs C++[Value.ref x3.1]=accXs (C++[ck x3.1 f tf p tp]) from (accXs_app C (ck x3.1 f tf p tp)).symm]
      exact recOk _ _ _ _ _ _ _ _ _ _ _ _ (by rw [hmap,hfeed]) (hparts _) (Nat.le_succ _)
     ·exact immApp (fun p hp=>hp) (.head _)
     ·refine ⟨(⟨x4.C,ck x3.1 f tf p tp::x4.nws,x4.xs,x4.ep,x4.tn,x4.ls,x4.el,x4.tb1,x4.tb2,x4.fo,x4.ie,x4.to⟩:ZRes),?_,rfl,rfl,O.sub fun q hq=>?_⟩
      ·refine PostZ.step (c:=ck x3.1 f tf p tp) h4 (by rw [hmap];exact (congrArg Prod.fst hfeed).symm) ⟨[],by simp [lineVs],?_⟩ (fun d hd=>?_) rfl rfl rfl rfl
       ·rw [show (ck x3.1 f tf p tp).pc=(f,p) from rfl,hfeed];rfl
       ·rcases iA hd with h | h
        ·exact .inl h
        ·exact .inr (by simpa using h)
      ·have hq:q∈(ck x3.1 f tf p tp).led::accLed x4.nws:=hq
       rcases iC hq with rfl | hq
       ·exact iL (iL (iL (iR (.head _))))
       ·exact iL (iR hq)
    kernel_rfl
  ·have hfeed:feed R.sg R.wd (C.map Chunk.pc) (f,p)=(C.map Chunk.pc++[(f,p)],[]):=by
    unfold feed;rw [←accLen_pc,if_neg hg]
   revert w
   refine vRowT (fun w=>tailZ (stZ w) (.ref Z.z) (.ref T) (fnEnv w 113 Z.F [])) [] roNil ?_ ?_
   ·refine fun w s N0 t0 G_ D_ I_=>
     .use 0x10001b06c090180000000000060000000006000000000606c1b06c1b06c0e020080b4080200002000020080202d020080000800008020080b4080200002000020080002d0002d0b42d (sAppNX w R C (accXs C) f tf p tp ep tn ls el tb1 tb2) [0,3,6,9,12,15,18] [] [] (sAppNX_valid R C f tf p tp rfl hsg hC hc cb1 cb2 cb3 (.inl (Int.not_lt.mp (by assumption)))) (inJ I_) fun x3 N3 t3 _=>
     .use 0x1 (sZ w R Z (spF6 w R Z (Value.str (st f) tf) sv cv qp (Value.str (st p) tp)) (C++[ck x3.fst f tf p tp]) ((accXs C)++[Value.ref x3.fst]) x3.snd.fst tn ls el (some x3.snd.snd) tb2 vs epP (i+1+1) (Value.str (st f) tf) (Value.str (st p) tp) ((zPN R C ls f tf p tp (its.map PcT.pc)) x3.fst)) [0,3,6,9,12,15,18,21,24,27,30,33,36] [] [] (?_) (inW D_ (?_)) fun x4 N4 t4 h4=>
     endQ D_ 0x4 (⟨x4.C,ck x3.1 f tf p tp::x4.nws,x4.xs,x4.ep,x4.tn,x4.ls,x4.el,x4.tb1,x4.tb2,x4.fo,x4.ie,x4.to⟩:ZRes) [0,3,6,9,12,15,18,21,24,27,30,33,36] [] [] fun s' O=>?_
    ·rw [show accXs C++[Value.ref x3.1]=accXs (C++[ck x3.1 f tf p tp]) from (accXs_app C (ck x3.1 f tf p tp)).symm]
     exact recOk _ _ _ _ _ _ _ _ _ _ _ _ (by rw [hmap,hfeed]) (hparts _) (Nat.le_succ _)
    ·exact immApp (fun p hp=>hp) (.head _)
    ·refine ⟨(⟨x4.C,ck x3.1 f tf p tp::x4.nws,x4.xs,x4.ep,x4.tn,x4.ls,x4.el,x4.tb1,x4.tb2,x4.fo,x4.ie,x4.to⟩:ZRes),?_,rfl,rfl,O.sub fun q hq=>?_⟩
     ·refine PostZ.step (c:=ck x3.1 f tf p tp) h4 (by rw [hmap];exact (congrArg Prod.fst hfeed).symm) ⟨[],by simp [lineVs],?_⟩ (fun d hd=>?_) rfl rfl rfl rfl
      ·rw [show (ck x3.1 f tf p tp).pc=(f,p) from rfl,hfeed];rfl
      ·rcases iA hd with h | h
       ·exact .inl h
       ·exact .inr (by simpa using h)
     ·have hq:q∈(ck x3.1 f tf p tp).led::accLed x4.nws:=hq
      rcases iC hq with rfl | hq
      ·exact iL (iL (iL (iR (.head _))))
      ·exact iL (iR hq)
   kernel_rfl
section
variable (w:World) (q:Nat->Nat) (a:Nat) (tv:Value)
def wtF2:Obj:=frameO w [("number",q 0,.ref a),("total",q 1,tv)] 2
def wtF3 (qf:Nat) (fv:Value):Obj:=frameO w [("number",q 0,.ref a),("total",q 1,tv),("figure",qf,fv)] 3
end
def sWt (w:World) (F it a:Nat) (q:Nat->Nat) (l:List (Nat×Nat)) (ep i:Nat) (fo:Obj) (v:Nat):Summ where
 code:=loopC (atS (fnBody w 277) 1 []) (.ref it) (fnEnv w 277 F [])
 need:=[(F,fo),(it,iterO a i)]
 imm:=[(a,seqL (.type "list") none (ivs l) ep)]
 Res:=Nat×Nat×Value×Nat
 res:=fun _=>.ok .next
 upd:=fun x=>[wtF3 w q a (iv v x.1) x.2.1 x.2.2.1,iterE x.2.2.2]
 d:=20
 u:=40
def sWorth (a:Nat) (l:List (Nat×Nat)) (ep v:Nat):Summ where
 code:=.call (.ref 277) ⟨[.ref a],[]⟩
 imm:=[(a,seqL (.type "list") none (ivs l) ep)]
 Res:=Nat
 res:=fun x=>.ok (.ret (iv v x))
 d:=30
 u:=60
noncomputable def horner (v:Nat):LN->Nat
 | []=>v
 | c::r=>horner (v*64+c) r
theorem sWt_valid (F it a:Nat) (q:Nat->Nat) (l:List (Nat×Nat)) (ep qf:Nat) (hl:∀p∈l,p.1<64):∀(r:List (Nat×Nat)) (w:World) (i v t:Nat) (fv:Value),l.drop i=r->(v+1)*64^r.length<=2^48->Vd w (sWt w F it a q l ep i (wtF3 w q a (iv v t) qf fv) (horner v (r.map (·.1)))):=by
 intro r
 induction r with
 | nil=>
  intro w i v t fv hr hb
  have hi:(ivs l).length<=i:=by
   have:l.length<=i:=List.drop_eq_nil_iff.mp hr
   simpa [ivs] using this
  revert w
  refine vRow ?_ ?_
  ·exact fun w s N0 t0 G_ D_ I_=>
    .ui 0x10240002400 (sItEI it a i (Value.type "list") none (ivs l) ep) [3] [] (sItEI_valid hi) (inJ I_) tt fun x1 N1 t1=>
    endQ D_ 0x400007 (t,qf,fv,i) [0,3] [] [] fun s' O=>⟨(t,qf,fv,i),trivial,rfl,rfl,O.noGi⟩
  kernel_rfl
 | cons p r ih=>
  intro w i v t fv hr hb
  obtain ⟨c,u⟩:=p
  have hi:l[i]? =some (c,u):=by
   have:=congrArg (·[0]?) hr
   simpa [List.getElem?_drop] using this
  have hx:(ivs l)[i]? =some (iv c u):=by simp [ivs,hi]
  have hc:c<64:=hl _ (List.mem_of_getElem? hi)
  have hr':l.drop (i+1)=r:=by
   have:=congrArg (List.drop 1) hr
   rwa [List.drop_drop] at this
  have hb1:(v+1)*(64^r.length*64)<=2^48:=by rw [←Nat.pow_succ];exact hb
  have hb2:(v*64+c+1)*64^r.length<=2^48:=by
   refine Nat.le_trans (Nat.mul_le_mul_right _ (show v*64+c+1<=(v+1)*64 by lia)) ?_
   rw [Nat.mul_assoc,Nat.mul_comm 64];exact hb1
  have hv:v<2^48:=by
   have:0<64^r.length*64:=by have:=Nat.pow_pos (n:=r.length) (show 0<64 by decide);lia
   have:=Nat.le_mul_of_pos_right (v+1) this
   lia
  revert w
  refine vRow ?_ ?_
  ·exact fun w s N0 t0 G_ D_ I_=>
    psItNI 0x10240002400 it a i (Value.type "list") none (ivs l) ep (iv c u) hx [3] [] (inJ I_) fun x1 N1 t1=>
    .u 0x10000601806 (sT "int.__mul__" [iv v t,Value.int (Int.ofNat 64) (t1+1)] (iv (v*64))) [] [] (iMul_valid rfl (by lia)) tt fun x2 N2 t2=>
    piAdd 0x100006 (v*64) x2 c u (v*64+c) rfl [] fun x3 N3 t3=>
    .ui 0x101806 (sWt w F it a q l ep (i+1) (wtF3 w q a (iv (v*64+c) x3) qf (iv c u)) _) [0,3] [] (ih _ _ _ _ _ hr' hb2) (inJ I_) tt fun x4 N4 t4=>
    endQ D_ 0x4 x4 [0,3] [] [] fun s' O=>⟨x4,trivial,rfl,rfl,O.noGi⟩
  kernel_rfl
theorem sWorth_valid (w:World) {a:Nat} {l:List (Nat×Nat)} {ep:Nat} (hl:∀p∈l,p.1<64) (h0:l≠[]) (hn:l.length<=4):Vd w (sWorth a l ep (horner 0 (l.map (·.1)))):=by
 cases l with
 | nil=>exact absurd rfl h0
 | cons p r=>
  obtain ⟨c,u⟩:=p
  have hc:c<64:=hl _ (.head _)
  have hr:r.length<=3:=by simpa using hn
  have hb:(0*64+c+1)*64^r.length<=2^48:=by
   have:64^r.length<=64^3:=Nat.pow_le_pow_right (by decide) hr
   have:=Nat.mul_le_mul (show 0*64+c+1<=64 by lia) this
   exact leT ‹_› rfl
  have first:∀(w:World) (F it:Nat) (q:Nat->Nat) (t:Nat),Vd w (sWt w F it a q ((c,u)::r) ep 0 (wtF2 w q a (iv 0 t)) (horner (0*64+c) (r.map (·.1)))):=fun w F it q t=>
   by
   revert w
   refine vRow ?_ ?_
   ·exact fun w s N0 t0 G_ D_ I_=>
     psItNI 0x10240002400 it a 0 (Value.type "list") none (ivs ((c,u)::r)) ep (iv c u) rfl [3] [] (inJ I_) fun x1 N1 t1=>
     .u 0x10000601806 (sT "int.__mul__" [iv 0 t,Value.int (Int.ofNat 64) (t1+1)] (iv (0*64))) [] [] (iMul_valid rfl (by decide)) tt fun x2 N2 t2=>
     piAdd 0x100006 (0*64) x2 c u (0*64+c) rfl [] fun x3 N3 t3=>
     .ui 0x101806 (sWt w F it a q ((c,u)::r) ep (0+1) (wtF3 w q a (iv (0*64+c) x3) t1 (iv c u)) _) [0,3] [] (sWt_valid F it a q ((c,u)::r) ep _ hl r _ _ _ _ _ rfl hb) (inJ I_) tt fun x4 N4 t4=>
     endQ D_ 0x4 x4 [0,3] [] [] fun s' O=>⟨x4,trivial,rfl,rfl,O.noGi⟩
   kernel_rfl
  revert w
  refine vRowR [(a,seqL (.type "list") none (ivs ((c,u)::r)) ep)] (fun w=>(fun p hp=>hp)) ?_ ?_
  ·exact fun w s N0 t0 G_ D_ I_=>
    .ui 0x102c0080000802000200802000000080200000002 (sWt w N0 (N0+1) a (fun x=>match x with | 0=>t0 | x=>t0+2) ((c,u)::r) ep 0 (wtF2 w (fun x=>match x with | 0=>t0 | x=>t0+2) a (iv 0 (t0+1))) _) [2,5] [2] (first _ _ _ _ _) (inJ I_) tt fun x1 N1 t1=>
    endQ D_ 0x1007 x1.1 [] [] [] fun s' O=>⟨x1.1,trivial,rfl,rfl,O.noGi⟩
  kernel_rfl
def vF3 (w:World) (q:Nat->Nat) (it:Nat) (bv vv:Value):Obj:=frameO w [("iterator",q 0,.ref it),("b",q 1,bv),("val",q 2,vv)] 3
def sVw (w:World) (F it a:Nat) (q:Nat->Nat) (l:List (Nat×Nat)) (ep i c u vv:Nat) (t v j:Nat):Summ where
 code:=loopC (atS (fnBody w 45) 2 []) .none (fnEnv w 45 F [])
 need:=[(F,vF3 w q it (iv c u) (iv vv t)),(it,iterO a i)]
 imm:=[(a,seqL (.type "list") none (ivs l) ep)]
 Res:=Nat×Nat×Nat
 res:=fun _=>.ok .next
 upd:=fun x=>[vF3 w q it (iv x.2.1 x.2.2) (iv v x.1),iterO a j]
 d:=20
 u:=40
def sVar (it a:Nat) (l:List (Nat×Nat)) (ep i v j:Nat):Summ where
 code:=.call (.ref 45) ⟨[.ref it],[]⟩
 need:=[(it,iterO a i)]
 imm:=[(a,seqL (.type "list") none (ivs l) ep)]
 Res:=Nat
 res:=fun x=>.ok (.ret (iv v x))
 upd:=fun _=>[iterO a j]
 d:=30
 u:=60
noncomputable def vcode:LN->LN
 | []=>[]
 | x::r=>(x+if r=[] then 0 else 64)::vcode r
theorem vcode_cons (x:Nat) (r:LN):vcode (x::r)=(x+if r=[] then 0 else 64)::vcode r:=rfl
theorem drop_get {α:Type} {l:List α} {i:Nat} {x:α} {r:List α} (h:l.drop i=x::r):l[i]? =some x/\l.drop (i+1)=r:=by
 constructor
 ·have:=congrArg (·[0]?) h
  simpa [List.getElem?_drop] using this
 ·have:=congrArg (List.drop 1) h
  simpa [List.drop_drop] using this
theorem ivs_get {l:List (Nat×Nat)} {i:Nat} {p:Nat×Nat} (h:l[i]? =some p):(ivs l)[i]? =some (iv p.1 p.2):=by
 unfold ivs;rw [List.getElem?_map,h];rfl
theorem horner_mono (v:Nat):∀fs,v<=horner v fs
 | []=>Nat.le_refl _
 | c::r=>Nat.le_trans (by lia) (horner_mono (v*64+c) r)
theorem sVw_valid (F it a:Nat) (q:Nat->Nat) (l:List (Nat×Nat)) (ep:Nat):∀(fs:LN) (w:World) (i x u vv t:Nat) (rest:LN),x<64->(∀f∈fs,f<64)->(l.drop i).map (·.1)=vcode fs++rest->horner vv fs<2^60->
  Vd w (sVw w F it a q l ep i (x+if fs=[] then 0 else 64) u vv t (horner vv fs) (i+fs.length)):=by
 intro fs
 induction fs with
 | nil=>
  intro w i x u vv t rest hx hf hd hb
  revert w
  refine vRow ?_ ?_
  ·exact fun w s N0 t0 G_ D_ I_=>
    .u 0x40001800 (sT "int.__and__" [iv (x+0) u,Value.int (Int.ofNat 64) (t0+0)] (iv 0)) [] [] (iAnd64_valid (by lia) (by rw [if_pos (by lia)])) tt fun x1 N1 t1=>
    endQ D_ 0x400000 (t,(x+0),u) [0,3] [] [] fun s' O=>⟨(t,x+0,u),trivial,rfl,rfl,O.noGi⟩
  kernel_rfl
 | cons f r ih=>
  intro w i x u vv t rest hx hf hd hb
  rw [vcode_cons,List.cons_append] at hd
  have hf0:f<64:=hf f (.head _)
  obtain ⟨p,l',hl,hp,hl'⟩:=List.map_eq_cons_iff.mp hd
  obtain ⟨hg,hdr⟩:=drop_get hl
  obtain ⟨c',u'⟩:=p
  have hp:c'=f+if r=[] then 0 else 64:=hp
  have hvv:vv*64+f<2^60:=Nat.lt_of_le_of_lt (horner_mono _ r) hb
  have hm:c'%64=f:=by rw [hp];split <;>lia
  have IH:=fun (w:World) (x5:Nat)=>ih w (i+1) f u' (vv*64+f) x5 rest hf0 (fun g hg=>hf g (.tail _ hg)) (by rw [hdr];exact hl') hb
  rw [←hp] at IH
  have e1:i+(f::r).length=i+1+r.length:=by simp;lia
  rw [e1,if_neg (by simp)]
  revert w
  refine vRow ?_ ?_
  ·exact fun w s N0 t0 G_ D_ I_=>
    .u 0x40001800 (sT "int.__and__" [iv (x+64) u,Value.int (Int.ofNat 64) (t0+0)] (iv 64)) [] [] (iAnd64_valid (by lia) (by rw [if_neg (by lia)])) tt fun x1 N1 t1=>
    .u 0x10000600000 (sT "int.__lshift__" [iv vv t,Value.int (Int.ofNat 6) (t1+0)] (iv (64*vv))) [] [] (iShl6_valid (by lia) rfl) tt fun x2 N2 t2=>
    psItNI 0x4090000902400000060000001806 it a i (Value.type "list") none (ivs l) ep (iv c' u') (ivs_get hg) [3] [] (inJ I_) fun x3 N3 t3=>
    .u 0x4000180601806 (sT "int.__and__" [iv c' u',Value.int (Int.ofNat 63) (t3+1)] (iv f)) [] [] (iAnd63_valid hm) tt fun x4 N4 t4=>
    .u 0x400 (sT "int.__or__" [iv (64*vv) x2,iv f x4] (iv (vv*64+f))) [] [] (iOr_valid hf0 (by lia)) tt fun x5 N5 t5=>
    .ui 0x101806 (sVw w F it a q l ep (i+1) c' u' (vv*64+f) x5 _ _) [0,3] [] (IH _ _) (inJ I_) tt fun x6 N6 t6=>
    endQ D_ 0x4 x6 [0,3] [] [] fun s' O=>⟨x6,trivial,rfl,rfl,O.noGi⟩
  kernel_rfl
theorem sVar_valid (w:World) {it a:Nat} {l:List (Nat×Nat)} {ep i:Nat} (fs rest:LN) (h0:fs≠[]) (hf:∀f∈fs,f<64) (hd:(l.drop i).map (·.1)=vcode fs++rest) (hb:horner 0 fs<2^60):
  Vd w (sVar it a l ep i (horner 0 fs) (i+fs.length)):=by
 cases fs with
 | nil=>exact absurd rfl h0
 | cons f r=>
  rw [vcode_cons,List.cons_append] at hd
  have hf0:f<64:=hf f (.head _)
  obtain ⟨p,l',hl,hp,hl'⟩:=List.map_eq_cons_iff.mp hd
  obtain ⟨hg,hdr⟩:=drop_get hl
  obtain ⟨c,u⟩:=p
  have hp:c=f+if r=[] then 0 else 64:=hp
  have hm:c%64=0*64+f:=by rw [hp];split <;>lia
  have e1:i+(f::r).length=i+1+r.length:=by simp;lia
  rw [e1]
  have IH:=fun (w:World) (F x5:Nat) (q:Nat->Nat)=>sVw_valid F it a q l ep r w (i+1) f u (0*64+f) x5 rest hf0 (fun g hg=>hf g (.tail _ hg)) (by rw [hdr];exact hl') hb
  rw [←hp] at IH
  revert w
  refine vRow ?_ ?_
  ·exact fun w s N0 t0 G_ D_ I_=>
    psItNI 0x10180001806000000200000000000080200000002 it a i (Value.type "list") none (ivs l) ep (iv c u) (ivs_get hg) [0] [2] (inJ I_) fun x1 N1 t1=>
    .u 0x10000701c07 (sT "int.__and__" [iv c u,Value.int (Int.ofNat 63) (t1+1)] (iv (0*64+f))) [] [1] (iAnd63_valid hm) tt fun x2 N2 t2=>
    .ui 0x101c07 (sVw w N0 it a (fun x=>match x with | 0=>t0 | 1=>t1 | x=>t2) l ep (i+1) c u (0*64+f) x2 _ _) [1,0] [1] (IH _ _ _ _) (inJ I_) tt fun x3 N3 t3=>
    endQ D_ 0x1007 x3.1 [0] [] [] fun s' O=>⟨x3.1,trivial,rfl,rfl,O.noGi⟩
  kernel_rfl
def sitO (l:LN) (t i:Nat):Obj:={cls:=.type "str_ascii_iterator",data:=.fields #[.str (st l) t,.int (Int.ofNat i) 0]}
noncomputable def sitE (i:Nat):Obj:={cls:=.type "str_ascii_iterator",data:=.fields #[.none,.int (Int.ofNat i) 0]}
def sStrIt (l:LN) (t:Nat):Summ where
 code:=.builtin "str.__iter__" ⟨[.str (st l) t],[]⟩
 Res:=Nat
 res:=fun x=>.ok (.ret (.ref x))
 new:=fun x=>[(x,sitO l t 0)]
 d:=5
 u:=10
def sSitN (it:Nat) (l:LN) (t i c:Nat):Summ where
 code:=.builtin "str_ascii_iterator.__next__" ⟨[.ref it],[]⟩
 need:=[(it,sitO l t i)]
 Res:=Nat
 res:=fun x=>.ok (.ret (.str (st [c]) x))
 upd:=fun _=>[sitO l t (i+1)]
 d:=5
 u:=10
def sSitE (it:Nat) (l:LN) (t i:Nat):Summ where
 code:=.builtin "str_ascii_iterator.__next__" ⟨[.ref it],[]⟩
 need:=[(it,sitO l t i)]
 Res:=Nat×Nat
 res:=fun x=>.error (.ref x.1)
 upd:=fun _=>[sitE i]
 new:=fun x=>[(x.1,stopO x.2),(x.2,tupO [])]
 d:=5
 u:=10
theorem plain_si:plainId "str.__iter__"=true:=by decide +kernel
theorem plain_sn:plainId "str_ascii_iterator.__next__"=true:=by decide +kernel
theorem sStrIt_valid {w:World} {l:LN} {t:Nat} (hl:∀c∈l,c<128):Vd w (sStrIt l t):=
 valid_n rfl plain_si PySem.F.entry_str_iter fun A s room base need imm nodup msk=>by
  have ha:(st l).cps.all (· <128)=true:=by
   unfold st;simp only [List.all_toArray,List.all_eq_true,decide_eq_true_eq];exact hl
  show wpAny _ _ (do ret (←newFields (if (true&&(st l).cps.all (· <128))=true then "str_ascii_iterator" else "str_iterator") [.str (st l) t,rawInt 0])) _ _ s
  rw [ha]
  refine wpAny_bind (wpAny_newObj_type (wpAny_pure ⟨_,rfl,s.heap.objs.size,trivial,rfl,rfl,?_⟩))
  exact out_push (s:=s) (need:=[]) (o:=sitO l t 0) rfl rfl rfl rfl (fun _ h=>nomatch h)
theorem sSitN_valid {w:World} {it:Nat} {l:LN} {t i c:Nat} (hc:l[i]? =some c):Vd w (sSitN it l t i c):=
 valid_n rfl plain_sn PySem.F.entry_str_ascii_iterator_next fun A s room base need imm nodup msk=>by
  have hit:=need _ (.head _)
  show wpAny _ _ (field (.ref it) 0>>=_) _ _ s
  refine wpAny_bind (wpAny_field hit rfl (x:=.str (st l) t) rfl ?_)
  show wpAny _ _ (field (.ref it) 1>>=_) _ _ s
  refine wpAny_bind (wpAny_field hit rfl (x:=.int (Int.ofNat i) 0) rfl ?_)
  have hx:(st l).cps[i]? =some c:=by unfold st;simpa using hc
  simp only [Int.toNat_natCast,Int.ofNat_eq_natCast,hx]
  refine wpAny_bind (wpAny_setField_rec hit (by simp) fun h1 g1 b1=>(wpAny_bind (wpAny_mkStr (wpAny_pure ⟨_,rfl,s.toks,trivial,rfl,rfl,?_⟩) (by show 1<=sizeLine;decide))))
  exact (out_nil (s:=s) (s':={s with toks:=s.toks+1}) rfl rfl rfl).set (s1:={s with toks:=s.toks+1}) b1 (fun h=>nomatch h) (fun _ hp=>nomatch hp) (by rw [g1];rfl)
theorem sSitE_valid {w:World} {it:Nat} {l:LN} {t i:Nat} (hc:l.length<=i):Vd w (sSitE it l t i):=
 valid_n rfl plain_sn PySem.F.entry_str_ascii_iterator_next fun A s room base need imm nodup msk=>by
  have hit:=need _ (.head _)
  show wpAny _ _ (field (.ref it) 0>>=_) _ _ s
  refine wpAny_bind (wpAny_field hit rfl (x:=.str (st l) t) rfl ?_)
  show wpAny _ _ (field (.ref it) 1>>=_) _ _ s
  refine wpAny_bind (wpAny_field hit rfl (x:=.int (Int.ofNat i) 0) rfl ?_)
  have hx:(st l).cps[i]? =none:=by unfold st;simpa using hc
  simp only [Int.toNat_natCast,Int.ofNat_eq_natCast,hx]
  refine wpAny_bind (wpAny_rule (wpAny_bind (wpAny_setField_rec hit (by simp) fun h1 g1 b1=>(wpAny_bind (wpAny_letGo ?_)))))
  refine wp_stop room.handled ⟨((h1.push (tupO [])).objs.size,h1.objs.size),trivial,rfl,rfl,?_⟩
  exact ((out_nil (s:=s) (s':=s) rfl rfl rfl).set (s1:=s) b1 (fun h=>nomatch h) (fun _ hp=>nomatch hp) (by rw [g1];rfl)).push2 rfl rfl
noncomputable def rhs:Stmt->Expr
 | .Assign _ v _=>v
 | .AugAssign _ _ v _=>v
 | .Return (some v) _=>v
 | .Expr v _=>v
 | .If t _ _ _=>t
 | .For _ it _ _ _=>it
 | .While t _ _ _=>t
 | _=>.Name ⟨#[]⟩ ⟨0,0,0,0⟩
noncomputable def nthE:List Expr->Nat->Expr
 | e::_,0=>e
 | _::l,n+1=>nthE l n
 | [],_=>.Name ⟨#[]⟩ ⟨0,0,0,0⟩
def sub:Expr->Nat->Expr
 | .Call f xs _ _,k=>nthE (f::xs) k
 | .BinOp l _ r _,k=>nthE [l,r] k
 | .Compare l _ rs _,k=>nthE (l::rs) k
 | .Tuple es _ _,k=>nthE es k
 | .List es _,k=>nthE es k
 | e,_=>e
noncomputable def subs:Expr->LN->Expr
 | e,[]=>e
 | e,k::r=>subs (sub e k) r
noncomputable def scopeOf:Expr->Scope
 | .ListComp _ _ sc _=>sc
 | _=>default
def compC (e:Expr) (it acc d:Nat) (env:Env):Code:=.compLoop e 0 (.ref it) (.ref acc) (compEnv (scopeOf e) env d [])
noncomputable def excO (a:Nat) (tb:Value):Obj:={cls:=.type "StopIteration",data:=.fields #[.ref a,tb,.none,.none,.bool false,.none]}
noncomputable def tbO (head:Value) (L:Nat) (fl:Value) (pl:LV):Obj:={cls:=.type "traceback",data:=.fields (head::.ref L::.none::fl::.none::pl).toArray}
structure Noted (fs:LN) (e:Nat) (eo:Obj) (T:Nat) (to:Obj) (h h':Heap):Prop where
 frames:∀a o,h.get? a=some o->a≠e->∃sl,h'.get? a=some {o with slots:=sl}
 keep:∀b o,b∉fs->b≠e->h.get? b=some o->h'.get? b=some o
 exc:h'.get? e=some eo
 tb:h'.get? T=some to
 tbN:h.objs.size<=T
 size:h.objs.size<=h'.objs.size
noncomputable def noHeap:Heap:={objs:= #[]}
theorem noHeap_get {a:Nat}:noHeap.get? a=none:=by
 cases h:noHeap.get? a with
 | none=>rfl
 | some o=>exact absurd (Heap.lt_size h) (Nat.not_lt_zero _)
def FramesIn (h:Heap) (l:List Env):Prop:=h.FunFrames noHeap l
theorem framesIn_cons {h:Heap} {env:Env} {l:List Env} {L:Nat} {o:Obj} {es:Array DictEntry} {ep:Nat} (hk:env.scope.kind≠.module) (hf:env.frame=some L) (ho:h.get? L=some o) (hd:o.data=.dict es ep) (hl:FramesIn h l):FramesIn h (env::l):=
 ⟨hk,⟨L,o,hf,noHeap_get,ho,fun vs e=>by rw [hd] at e;cases e⟩,hl⟩
section
variable {M:Model} {A:Around} {E:Value->Shared->Prop} {s:Shared}
theorem wp_entryX {env:Env} {outer:List Env} {L e:Nat} {oe:Obj} {vs:Array Value} {head:Value} {had:Bool} {Q:Unit->Shared->Prop} (hfr:A.frames=some (env::outer)) (hl:FramesIn s.heap (env::outer)) (hf:env.frame=some L)
  (he:s.heap.get? e=some oe) (hd:oe.data=.fields vs) (hsz:1<vs.size)
  (h:∀h1 pl,Heap.SlotsOnly ((env::outer).filterMap (·.frame)) s.heap h1->h1.get? e=some oe->Q () {s with heap:=(h1.push (tbO head L (rawInt L) pl)).update e (Obj.mapFields (·.setIfInBounds 1 (.ref h1.objs.size)))}):
  wpAny M A (do let a ←frameOf env;let pl ←entryPlaceOf L had;let b ←EntryCells.newEntry head a .none (rawInt L) .none pl;setField (.ref e) 1 b) Q E s:=by
 have hne:e∉(env::outer).filterMap (·.frame):=fun hm=>by
  obtain ⟨_,o,ho,hnf⟩:=Heap.FunFrames.mem hl hm
  rw [he] at ho;cases ho;exact hnf vs hd
 refine wpAny_bind (wpAny_frameOf_fun hfr hl hf fun h1 hs1=>wpAny_bind (wpAny_entryPlaceOf fun pl hpl=>?_))
 have he1:h1.get? e=some oe:=(hs1.2.1 e hne).trans he
 unfold EntryCells.newEntry newFields
 refine wpAny_bind (wpAny_newObj_type ?_ (hpl.sizeOk5 _ _ _ _ _))
 exact wpAny_setField (Heap.get?_push_of_some _ he1) hd hsz (h h1 (if pl.isEmpty then List.replicate 6 Value.none else pl) hs1 he1)
theorem noted_of {fs:LN} {e:Nat} {eo eo' to:Obj} {h h1:Heap} {f:Obj->Obj} (hs:Heap.SlotsOnly fs h h1) (he:h1.get? e=some eo) (hf:f eo=eo') (hz:eo'.isFreed=false) (ht:to.isFreed=false):Noted fs e eo' h1.objs.size to h ((h1.push to).update e f):=by
 have hp:(h1.push to).get? e=some eo:=Heap.get?_push_of_some _ he
 have hne:e≠h1.objs.size:=Nat.ne_of_lt (Heap.lt_size he)
 have other:∀b,b≠e->((h1.push to).update e f).get? b=(h1.push to).get? b:=fun b hb=>Heap.get?_update_other _ _ (Ne.symm hb)
 refine ⟨fun a o ho hae=>?_,fun b o hb hbe ho=>?_,?_,?_,Nat.le_of_eq hs.1.symm,?_⟩
 ·obtain ⟨sl,hsl⟩:=hs.2.2 a o ho
  exact ⟨sl,(other a hae).trans (Heap.get?_push_of_some _ hsl)⟩
 ·exact (other b hbe).trans (Heap.get?_push_of_some _ ((hs.2.1 b hb).trans ho))
 ·rw [←hf];exact Heap.get?_update_self _ hp (by rw [hf];exact hz)
 ·exact (other _ (Ne.symm hne)).trans (Heap.get?_push_size _ ht)
 ·have:((h1.push to).update e f).objs.size=h1.objs.size+1:=by rw [Heap.size_after_update,Heap.size_push]
  rw [this,hs.1];exact Nat.le_succ _
theorem noted_tb {fs:LN} {e:Nat} {eo to to':Obj} {T:Nat} {h h1:Heap} {f:Obj->Obj} (N:Noted fs e eo T to h h1) (hT:T≠e) (hf:f to=to') (hz:to'.isFreed=false):Noted fs e eo T to' h (h1.update T f):=by
 have other:∀b,b≠T->(h1.update T f).get? b=h1.get? b:=fun b hb=>Heap.get?_update_other _ _ (Ne.symm hb)
 have lt:∀{b o},h.get? b=some o->b≠T:=fun {b o} hb q=>by
  have h1: @LT.lt Nat _ b _:=Heap.lt_size hb
  have:=N.tbN
  rw [q] at h1;exact absurd h1 (Nat.not_lt.mpr this)
 refine ⟨fun a o ho hae=>?_,fun b o hb hbe ho=>(other b (lt ho)).trans (N.keep b o hb hbe ho),(other e (Ne.symm hT)).trans N.exc,?_,N.tbN,?_⟩
 ·obtain ⟨sl,hsl⟩:=N.frames a o ho hae
  exact ⟨sl,(other a (lt ho)).trans hsl⟩
 ·rw [←hf];exact Heap.get?_update_self _ N.tb (by rw [hf];exact hz)
 ·rw [Heap.size_after_update];exact N.size
theorem wp_leave {env:Env} {outer:List Env} {L e a:Nat} {Q:Unit->Shared->Prop} (hfr:A.frames=some (env::outer)) (hl:FramesIn s.heap (env::outer)) (hf:env.frame=some L)
  (he:s.heap.get? e=some (excO a .none))
  (h:∀h' T pl,Noted ((env::outer).filterMap (·.frame)) e (excO a (.ref T)) T (tbO .none L .none pl) s.heap h'->Q () {s with heap:=h'}):wpAny M A (leaving env (.ref e)) Q E s:=by
 unfold leaving noteFrame
 simp only [hf]
 refine wpAny_bind (wpAny_bind (wpAny_field he rfl (x:=.none) rfl ?_))
 rw [if_neg (by decide)]
 refine wp_entryX hfr hl hf he rfl (by simp) fun h1 pl hs1 he1=>?_
 have N:=noted_of (to:=tbO .none L (rawInt L) pl) (f:=Obj.mapFields (·.setIfInBounds 1 (.ref h1.objs.size))) (eo':=excO a (.ref h1.objs.size)) hs1 he1 rfl rfl rfl
 unfold setFlight
 refine wpAny_bind (wpAny_field N.exc rfl (x:=.ref h1.objs.size) rfl ?_)
 rw [if_pos (show (Value.ref h1.objs.size !=Value.none)=true from by simp)]
 refine wpAny_setField N.tb rfl (by simp) (h _ h1.objs.size pl (noted_tb N (Nat.ne_of_gt (Heap.lt_size he1)) rfl rfl))
theorem wp_note {env:Env} {outer:List Env} {L e a T0 L0:Nat} {hd0:Value} {pl0:LV} {Q:Unit->Shared->Prop} (hfr:A.frames=some (env::outer)) (hl:FramesIn s.heap (env::outer)) (hf:env.frame=some L)
  (he:s.heap.get? e=some (excO a (.ref T0))) (hT:s.heap.get? T0=some (tbO hd0 L0 .none pl0))
  (h:∀h' T pl,Noted ((env::outer).filterMap (·.frame)) e (excO a (.ref T)) T (tbO (.ref T0) L (rawInt L) pl) s.heap h'->Q () {s with heap:=h'}):wpAny M A (noteFrame (.ref e) env) Q E s:=by
 unfold noteFrame
 simp only [hf]
 refine wpAny_bind (wpAny_field he rfl (x:=.ref T0) rfl ?_)
 rw [if_pos (show (Value.ref T0 !=Value.none)=true from by simp)]
 refine wpAny_bind (wpAny_field hT rfl (x:=.none) rfl ?_)
 rw [if_neg (show ¬((Value.none==rawInt L)=true) from by simp [rawInt])]
 have hTe:T0≠e:=fun q=>by subst q;rw [he] at hT;exact absurd (congrArg Obj.cls (Option.some.inj hT)) (by intro q;have:=Value.type.inj q;revert this;decide)
 refine wpAny_bind (wpAny_setField hT rfl (by simp) ?_)
 have hself:(s.heap.update T0 (Obj.mapFields (·.setIfInBounds 3 Value.none))).get? T0=some (tbO hd0 L0 .none pl0):=Heap.get?_update_self _ hT rfl
 have same:∀b,(s.heap.update T0 (Obj.mapFields (·.setIfInBounds 3 Value.none))).get? b=s.heap.get? b:=fun b=>by
  by_cases q:b=T0
  ·subst q;rw [hself,hT]
  ·exact Heap.get?_update_other _ _ (Ne.symm q)
 have hl':FramesIn (s.heap.update T0 (Obj.mapFields (·.setIfInBounds 3 Value.none))) (env::outer):=Heap.FunFrames.of_keeps (fun b o hb _=>⟨o,(same b).trans hb,rfl⟩) hl
 refine wp_entryX hfr hl' hf ((same e).trans he) rfl (by simp) fun h1 pl hs1 he1=>?_
 have N:=noted_of (to:=tbO (.ref T0) L (rawInt L) pl) (f:=Obj.mapFields (·.setIfInBounds 1 (.ref h1.objs.size))) (eo':=excO a (.ref h1.objs.size)) hs1 he1 rfl rfl rfl
 have hz:(s.heap.update T0 (Obj.mapFields (·.setIfInBounds 3 Value.none))).objs.size=s.heap.objs.size:=Heap.size_after_update ..
 refine h _ h1.objs.size pl ⟨fun a o ho=>N.frames a o ((same a).trans ho),fun b o hb hbe ho=>N.keep b o hb hbe ((same b).trans ho),N.exc,N.tb,by rw [←hz];exact N.tbN,by rw [←hz];exact N.size⟩
end
noncomputable def funcN (c:Code):Sem PySem.Fin:=match c with
 | .func body env=>do
  point
  match ←execs body env with
  | .ret v=>ret v
  | _=>ret .none
 | _=>.unsupported "no"
end Mine
lay_z Mine.funcN
namespace Mine
def vF1 (w:World) (q it:Nat):Obj:=frameO w [("iterator",q,.ref it)] 1
structure VRes where
 e:Nat
 a:Nat
 T:Nat
 pl:LV
 s2:Array (Option Value)
 s1:Array (Option Value)
 s0:Array (Option Value)
noncomputable def slt (o:Obj) (sl:Array (Option Value)):Obj:={o with slots:=sl}
def sVarT (w:World) (F2 q it L:Nat) (l:List (Nat×Nat)) (ep i F1:Nat) (fo1:Obj) (F0:Nat) (fo0:Obj):Summ where
 code:=.func (fnBody w 45) (fnEnv w 45 F2 [])
 need:=[(F2,vF1 w q it),(it,iterO L i),(F1,fo1),(F0,fo0)]
 imm:=[(L,seqL (.type "list") none (ivs l) ep)]
 Res:=Nat×Nat
 res:=fun x=>.error (.ref x.1)
 upd:=fun _=>[vF1 w q it,iterE i,fo1,fo0]
 new:=fun x=>[(x.1,stopO x.2)]
 d:=20
 u:=40
theorem funcN_eq:PySem.W.ZFast.zw15567447435667598009=funcN:=PySem.W.ZFast.ze15567447435667598009.symm
open PySem PySem.Spec PySem.Calls PyProof.Rows PySem.W PySem.W.X in
theorem funcN_raise {M:Model} {Γ:PySem.Ctx} {body:List Stmt} {env:Env} {Q Q':PySem.Fin->Pos->Shared->Prop} {E E':Value->Pos->Shared->Prop} {p:Pos} {s:Shared}
  (hQ:∀f p s,Q (.done f) p s->Q' (.done f) p s) (hE:∀e p s,E e p s->Sem.wp M Γ (leaving env e) (fun _ p' s'=>E' e p' s') E' p s)
  (h:Sem.wp M Γ (funcN (.func body env)) Q E p s):Sem.wp M Γ (denote table (.func body env)) Q' E' p s:=by
 show Sem.wp M Γ (point>>=fun _=>((execs body env).onRaise (leaving env))>>=fun f=>match f with
  | .ret v=>ret v
  | _=>ret .none) Q' E' p s
 have h:Sem.wp M Γ (point>>=fun _=>execs body env>>=fun f=>match f with
  | .ret v=>ret v
  | _=>ret .none) Q E p s:=h
 have hp:(point:Sem Unit)=Sem.point [] Sem.pure:=rfl
 rw [Sem.wp_bind',hp,Sem.wp_point,Sem.wp_pure,Sem.wp_bind'] at h ⊢
 rw [Sem.wp_onRaise]
 refine Sem.wp_mono M Γ (execs body env) (fun f p2 s2 h2=>?_) (fun e p2 s2 h2=>hE e p2 s2 h2) p s h
 have key:∀v:Value,Sem.wp M Γ (Sem.pure (PySem.Fin.done (.ret v))) Q E p2 s2->Sem.wp M Γ (Sem.pure (PySem.Fin.done (.ret v))) Q' E' p2 s2:=fun v h2=>by
  rw [Sem.wp_pure] at h2 ⊢
  exact hQ _ _ _ h2
 cases f with
 | ret v=>exact key v h2
 | _=>exact key .none h2
theorem out_noted {s s1:Shared} {mods:LN} {lv1 lv2 ln1 li1:Led} {fs:LN} {e T:Nat} {oe eo to:Obj} {h2:Heap} (O:Out s s1 mods lv1 ln1 li1) (he:(e,oe)∈ln1) (hfs:∀a∈fs,a∈mods)
  (N:Noted fs e eo T to s1.heap h2) (hlv:∀p∈lv2,h2.get? p.1=some p.2):Out s {s1 with heap:=h2} mods lv2 [(e,eo),(T,to)] []:=by
 have hen:=O.nw _ he
 have h1: @LT.lt Nat _ e s1.heap.objs.size:=Heap.lt_size hen.1
 have h3:=O.size
 have h4:s.heap.objs.size<=e:=hen.2
 have h5:=N.tbN
 refine ⟨fun b o hb hbm=>?_,hlv,fun p hp=>?_,fun _ h=>(nomatch h),?_,Nat.le_trans O.size N.size,O.os,O.bare⟩
 ·have: @LT.lt Nat _ b s.heap.objs.size:=Heap.lt_size hb
  exact N.keep b o (fun h=>hbm (hfs b h)) (fun q=>by rw [q] at this;lia) (O.keep b o hb hbm)
 ·rcases iC hp with rfl | hp
  ·exact ⟨N.exc,h4⟩
  ·rcases iC hp with rfl | hp
   ·exact ⟨N.tb,by show s.heap.objs.size<=T;lia⟩
   ·cases hp
 ·simp only [List.map_cons,List.map_nil,List.nodup_cons,List.mem_singleton,List.not_mem_nil,not_false_eq_true,and_true,List.nodup_nil]
  exact fun q=>by rw [q] at h1;lia
def sVarEF (w:World) (F2 q it L:Nat) (l:List (Nat×Nat)) (ep i F1:Nat) (fo1:Obj) (F0:Nat) (fo0:Obj) (E1 E0:Env):Summ where
 code:=.func (fnBody w 45) (fnEnv w 45 F2 [])
 need:=[(F2,vF1 w q it),(it,iterO L i),(F1,fo1),(F0,fo0)]
 imm:=[(L,seqL (.type "list") none (ivs l) ep)]
 Res:=VRes
 res:=fun x=>.error (.ref x.e)
 upd:=fun x=>[slt (vF1 w q it) x.s2,iterE i,slt fo1 x.s1,slt fo0 x.s0]
 new:=fun x=>[(x.e,excO x.a (.ref x.T)),(x.T,tbO .none F2 .none x.pl)]
 d:=20
 u:=40
 fr:=some [E1,E0]
def sVarE (w:World) (it L:Nat) (l:List (Nat×Nat)) (ep i F1:Nat) (fo1:Obj) (F0:Nat) (fo0:Obj) (E1 E0:Env):Summ where
 code:=.call (.ref 45) ⟨[.ref it],[]⟩
 need:=[(it,iterO L i),(F1,fo1),(F0,fo0)]
 imm:=[(L,seqL (.type "list") none (ivs l) ep)]
 Res:=Nat×VRes
 res:=fun x=>.error (.ref x.2.e)
 upd:=fun x=>[iterE i,slt fo1 x.2.s1,slt fo0 x.2.s0]
 new:=fun x=>[(x.2.e,excO x.2.a (.ref x.2.T)),(x.2.T,tbO .none x.1 .none x.2.pl)]
 d:=30
 u:=60
 fr:=some [E1,E0]
open PySem PySem.Spec PySem.Calls PyProof.Rows PySem.W PySem.W.X in
theorem sVarEF_valid (w:World) {F2 q it L:Nat} {l:List (Nat×Nat)} {ep i F1:Nat} {fo1:Obj} {F0:Nat} {fo0:Obj} {E1 E0:Env} (k1:E1.scope.kind≠.module) (f1:E1.frame=some F1) (k0:E0.scope.kind≠.module) (f0:E0.frame=some F0)
  {es1 es0:Array DictEntry} {ep1 ep0:Nat} (d1:fo1.data=.dict es1 ep1) (d0:fo0.data=.dict es0 ep0) (hi:l.length<=i):Vd w (sVarEF w F2 q it L l ep i F1 fo1 F0 fo0 E1 E0):=by
 have H0:OwnS w (sVarT w F2 q it L l ep i F1 fo1 F0 fo0) (PySem.W.ZFast.zw15567447435667598009 (.func (fnBody w 45) (fnEnv w 45 F2 []))):=by
  revert w
  refine vRowT (fun w=>PySem.W.ZFast.zw15567447435667598009 (.func (fnBody w 45) (fnEnv w 45 F2 []))) [] roNil ?_ ?_
  ·exact fun w s N0 t0 G_ D_ I_=>
    .ui 0x40900009024000000600000 (sItEI it L i (Value.type "list") none (ivs l) ep) [3] [] (sItEI_valid (by simpa [ivs] using hi)) (inJ I_) tt fun x1 N1 t1=>
    endQ D_ 0x4 x1 [0,3,6,9] [1] [] fun s' O=>⟨x1,trivial,rfl,rfl,O.noGi⟩
  kernel_rfl
 intro A s room base need imm nodup msk gn
 refine y_code _ _ _ _ _ _ ?_
 intro Γ p hc hΓ
 have room1:RoomOk A (sVarT w F2 q it L l ep i F1 fo1 F0 fo0):=⟨room.handled,room.depth,room.units,room.env,room.frames,fun _ e=>nomatch e⟩
 have h:=H0 A s room1 base need imm nodup msk gn Γ p hc hΓ
 rw [funcN_eq] at h
 refine funcN_raise (fun f p1 s1 h1=>?_) (fun e p1 s1 h1=>?_) h
 ·obtain ⟨x,_,hr,_⟩:=h1
  cases hr
 ·obtain ⟨x,_,hr,_,O⟩:=h1
  cases hr
  have hfr:(A.under (sVarEF w F2 q it L l ep i F1 fo1 F0 fo0 E1 E0).code).frames=some [fnEnv w 45 F2 [],E1,E0]:=by
   have:∀c,(A.under c).frames=pushEnvs c.envs A.frames:=fun _=>rfl
   rw [this,room.fr _ rfl,pushEnvs_eq];rfl
  have g2:=O.gv _ (.head _)
  have g1:=O.gv _ (.tail _ (.tail _ (.head _)))
  have g0:=O.gv _ (.tail _ (.tail _ (.tail _ (.head _))))
  have gi:=O.gv _ (.tail _ (.head _))
  have ge:=O.nw _ (.head _)
  have hk:(fnEnv w 45 F2 []).scope.kind≠.module:=by
   have:(fnEnv w 45 F2 []).scope.kind=.function:=by kernel_rfl
   rw [this];decide
  have hl:FramesIn s1.heap [fnEnv w 45 F2 [],E1,E0]:=framesIn_cons hk rfl g2 rfl (framesIn_cons k1 f1 g1 d1 (framesIn_cons k0 f0 g0 d0 trivial))
  refine wp_leave hfr hl rfl ge.1 (fun h' T pl N=>?_) Γ p1 (hc▸hΓ.in)
  have hfs:([fnEnv w 45 F2 [],E1,E0].filterMap (·.frame))=[F2,F1,F0]:=by simp [f1,f0,fnEnv]
  rw [hfs] at N
  have nin:∀a o,s.heap.get? a=some o->a≠x.1:=fun a o ha=>neq (Heap.lt_size ha) ge.2
  obtain ⟨s2,hs2⟩:=N.frames _ _ g2 (nin _ _ (need _ (.head _)))
  obtain ⟨s1',hs1⟩:=N.frames _ _ g1 (nin _ _ (need _ (.tail _ (.tail _ (.head _)))))
  obtain ⟨s0,hs0⟩:=N.frames _ _ g0 (nin _ _ (need _ (.tail _ (.tail _ (.tail _ (.head _))))))
  have nd:=nd4 (a:=F2) (b:=it) (c:=F1) (d:=F0) nodup
  have nit:it∉[F2,F1,F0]:=mn3 ⟨fun e=>nd.1.1 e.symm,nd.2.1.1,nd.2.1.2⟩
  have hit:=N.keep _ _ nit (nin _ _ (need _ (.tail _ (.head _)))) gi
  refine ⟨⟨x.1,x.2,T,pl,s2,s1',s0⟩,trivial,rfl,rfl,?_⟩
  exact out_noted O (.head _) (fa (.head _) fun a ha=>.tail _ (.tail _ ha)) N (fa hs2 (fa hit (fa hs1 (fa hs0 fa0))))
theorem sVarE_valid (w:World) {it L:Nat} {l:List (Nat×Nat)} {ep i F1:Nat} {fo1:Obj} {F0:Nat} {fo0:Obj} {E1 E0:Env} (k1:E1.scope.kind≠.module) (f1:E1.frame=some F1) (k0:E0.scope.kind≠.module) (f0:E0.frame=some F0)
  {es1 es0:Array DictEntry} {ep1 ep0:Nat} (d1:fo1.data=.dict es1 ep1) (d0:fo0.data=.dict es0 ep0) (hi:l.length<=i):Vd w (sVarE w it L l ep i F1 fo1 F0 fo0 E1 E0):=
 by
 revert w
 refine vRow ?_ ?_
 ·exact fun w s N0 t0 G_ D_ I_=>
   .ui 0x1000080200000002 (sVarEF w N0 t0 it L l ep i F1 fo1 F0 fo0 E1 E0) [2,0,3,6] [] (sVarEF_valid _ k1 f1 k0 f0 d1 d0 hi) (inJ I_) tt fun x1 N1 t1=>
   dn D_ 0x4 ((.error (.ref x1.e))) [(0,it,iterE i),(3,F1,slt fo1 x1.s1),(6,F0,slt fo0 x1.s0)] [(1,x1.e,excO x1.a (.ref x1.T)),(4,x1.T,tbO .none N0 .none x1.pl)] [] fun s' O=>⟨(N0,x1),trivial,rfl,rfl,O.noGi⟩
 kernel_rfl
def ordD (w:World) (q:Nat) (v:Value):Obj:=dictO w [("sign",q,v)] 1
def sOrd (w:World) (F it acc d:Nat) (wd:LN) (t i:Nat) (xs:LV) (ep:Nat) (dd:Obj) (r:LN):Summ where
 code:=compC (subs (rhs (atS (fnBody w 294) 0 [])) [1]) it acc d (fnEnv w 294 F [])
 need:=[(it,sitO wd t i),(acc,seqO (.type "list") none xs ep),(d,dd)]
 Res:=List (Nat×Nat)×Nat×Nat×Nat×Value
 post:=fun x=>x.1.map (·.1)=r
 res:=fun _=>.ok .next
 upd:=fun x=>[sitE x.2.2.1,seqO (.type "list") none (xs++ivs x.1) x.2.1,ordD w x.2.2.2.1 x.2.2.2.2]
 d:=20
 u:=40
theorem sOrd_valid (F it acc d:Nat) (wd:LN) (t:Nat) (hl:wd.length<=1000):∀(r:LN) (w:World) (i:Nat) (xs:LV) (ep q:Nat) (v:Value),wd.drop i=r->xs.length=i->
  Vd w (sOrd w F it acc d wd t i xs ep (ordD w q v) r):=by
 intro r
 induction r with
 | nil=>
  intro w i xs ep q v hr hx
  have hi:wd.length<=i:=List.drop_eq_nil_iff.mp hr
  revert w
  refine vRow ?_ ?_
  ·exact fun w s N0 t0 G_ D_ I_=>
    .u 0x10180001800 (sSitE it wd t i) [0] [] (sSitE_valid hi) tt fun x1 N1 t1=>
    dn D_ 0x1007 ((.ok .next)) [(0,it,sitE i),(3,acc,seqO (.type "list") none xs ep),(6,d,ordD w q v)] [] [] fun s' O=>⟨([],ep,i,q,v),rfl,rfl,rfl,by have:=O.noGi;rw [←List.append_nil xs] at this;exact this⟩
  kernel_rfl
 | cons c r ih=>
  intro w i xs ep q v hr hx
  obtain ⟨hg,hdr⟩:=drop_get hr
  have hi:i<wd.length:=(List.getElem?_eq_some_iff.mp hg).1
  revert w
  refine vRow ?_ ?_
  ·exact fun w s N0 t0 G_ D_ I_=>
    .u 0x10180001800 (sSitN it wd t i c) [0] [] (sSitN_valid hg) tt fun x1 N1 t1=>
    psAppend 0x409000000000c000000300c (Value.type "list") none acc xs ep (iv c (t1+1)) (by lia) [3] [] fun x2 N2 t2=>
    .up 0x1 (sOrd w F it acc d wd t (i+1) (xs++[iv c (t1+1)]) x2 (ordD w q (Value.str (st [c]) x1)) r) [0,3,6] [] (ih _ _ _ _ _ _ hdr (by simp [hx])) tt fun x3 N3 t3 h3=>
    dn D_ 0x4 ((.ok .next)) [(0,it,sitE x3.2.2.1),(3,acc,seqO (.type "list") none ((xs++[iv c (t1+1)])++ivs x3.1) x3.2.1),(6,d,ordD w x3.2.2.2.1 x3.2.2.2.2)] [] [] fun s' O=>⟨((c,t1+1)::x3.1,x3.2),by show c::x3.1.map (·.1)=_;rw [show x3.1.map (·.1)=r from h3],rfl,rfl,by
    have:=O.noGi;rw [List.append_assoc] at this;exact this⟩
  kernel_rfl
theorem sOrd1_valid {F it acc d:Nat} {c:Nat} {r:LN} {t:Nat} (hl:(c::r).length<=1000) (w:World) {ep:Nat}:Vd w (sOrd w F it acc d (c::r) t 0 [] ep (dictO w [] 0) (c::r)):=
 by
 revert w
 refine vRow ?_ ?_
 ·exact fun w s N0 t0 G_ D_ I_=>
   .u 0x10180001800 (sSitN it (c::r) t 0 c) [0] [] (sSitN_valid rfl) tt fun x1 N1 t1=>
   psAppend 0x409000000000c000000300c (Value.type "list") none acc [] ep (iv c (t1+1)) (by simp) [3] [] fun x2 N2 t2=>
   .up 0x1 (sOrd w F it acc d (c::r) t (0+1) ([]++[iv c (t1+1)]) x2 (ordD w t1 (Value.str (st [c]) x1)) r) [0,3,6] [] (sOrd_valid F it acc d (c::r) t hl r _ _ _ _ _ _ rfl rfl) tt fun x3 N3 t3 h3=>
   dn D_ 0x4 ((.ok .next)) [(0,it,sitE x3.2.2.1),(3,acc,seqO (.type "list") none (([]++[iv c (t1+1)])++ivs x3.1) x3.2.1),(6,d,ordD w x3.2.2.2.1 x3.2.2.2.2)] [] [] fun s' O=>⟨((c,t1+1)::x3.1,x3.2),by show c::x3.1.map (·.1)=_;rw [show x3.1.map (·.1)=r from h3],rfl,rfl,by exact O.noGi⟩
 kernel_rfl
section
variable (w:World) (q:Nat->Nat) (wv:Value)
def nmF3 (it tl:Nat):Obj:=frameO w [("word",q 0,wv),("codes",q 1,.ref it),("told",q 2,.ref tl)] 3
def nmF4 (it tl q3:Nat) (tv:Value):Obj:=frameO w [("word",q 0,wv),("codes",q 1,.ref it),("told",q 2,.ref tl),("turn",q3,tv)] 4
end
noncomputable def forN (c:Code):Sem PySem.Fin:=match c with
 | .forLoop target it body orelse env=>do
  match ←forTurn target it body orelse env with
  | .done f=>pure (.done f)
  | .again _=>.unsupported "no"
 | _=>.unsupported "no"
end Mine
lay_z Mine.forN
namespace Mine
structure NmR where
 F:Nat
 q:Nat->Nat
 wv:Value
 it:Nat
 L:Nat
 tl:Nat
 rit:Nat
 l:List (Nat×Nat)
 ep:Nat
 F0:Nat
 E0:Env
noncomputable abbrev nmEnv (w:World) (R:NmR):Env:=fnEnv w 294 R.F []
def nmC (w:World) (R:NmR):Code:=loopC (atS (fnBody w 294) 2 [(0,0)]) (.ref R.rit) (nmEnv w R)
structure NRes where
 e:Nat
 a:Nat
 T:Nat
 hd:Value
 pl:LV
 q3:Nat
 tv:Value
 s1:Array (Option Value)
 s0:Array (Option Value)
 v:Int
 r:Int
 i:Nat
 vs:List (Nat×Nat)
 ep:Nat
section
variable (w:World) (R:NmR) (fo:Obj) (fo0:Obj)
def sNmL (v r:Int) (i:Nat) (xs:LV) (ep:Nat) (ns:LN):Summ where
 code:=nmC w R
 need:=[(R.F,fo),(R.rit,riO v r 1),(R.it,iterO R.L i),(R.tl,seqO (.type "list") none xs ep),(R.F0,fo0)]
 imm:=[(R.L,seqL (.type "list") none (ivs R.l) R.ep)]
 Res:=NRes
 post:=fun x=>x.vs.map (·.1)=ns
 res:=fun x=>.error (.ref x.e)
 upd:=fun x=>[slt (nmF4 w R.q R.wv R.it R.tl x.q3 x.tv) x.s1,riO x.v x.r 1,iterE x.i,seqO (.type "list") none (xs++ivs x.vs) x.ep,slt fo0 x.s0]
 new:=fun x=>[(x.e,excO x.a (.ref x.T)),(x.T,tbO x.hd R.F (rawInt R.F) x.pl)]
 d:=50
 u:=100
 fr:=some [nmEnv w R,R.E0]
def sNmT (v v' r r':Int) (i:Nat) (xs:LV) (ep:Nat):Summ where
 code:=nmC w R
 need:=[(R.F,fo),(R.rit,riO v r 1),(R.it,iterO R.L i),(R.tl,seqO (.type "list") none xs ep),(R.F0,fo0)]
 imm:=[(R.L,seqL (.type "list") none (ivs R.l) R.ep)]
 Res:=Nat×Nat×Nat×VRes
 res:=fun x=>.error (.ref x.2.2.2.e)
 upd:=fun x=>[slt (nmF4 w R.q R.wv R.it R.tl x.2.2.1 (.int v x.1)) x.2.2.2.s1,riO v' r' 1,iterE i,seqO (.type "list") none xs ep,slt fo0 x.2.2.2.s0]
 new:=fun x=>[(x.2.2.2.e,excO x.2.2.2.a (.ref x.2.2.2.T)),(x.2.2.2.T,tbO .none x.2.1 .none x.2.2.2.pl)]
 d:=50
 u:=100
 fr:=some [nmEnv w R,R.E0]
end
theorem forN_eq:PySem.W.ZFast.zw325895916126816905=forN:=PySem.W.ZFast.ze325895916126816905.symm
noncomputable def isFor:Stmt->Bool
 | .For _ _ _ _ _=>true
 | _=>false
theorem forLoopC {st:Stmt} (h:isFor st=true):∃t b e,∀it env,loopC st it env=.forLoop t it b e env:=by
 cases st <;>first | exact ⟨_,_,_,fun _ _=>rfl⟩ | cases h
theorem nm_isFor (w:World):isFor (atS (fnBody w 294) 2 [(0,0)])=true:=by kernel_rfl
theorem kind_fn (w:World) (F:Nat):(fnEnv w 294 F []).scope.kind≠.module:=by
 have:(fnEnv w 294 F []).scope.kind=.function:=by kernel_rfl
 rw [this];decide
theorem nm_raise {w:World} {R:NmR} {fo fo0:Obj} {v v' r r':Int} {i:Nat} {xs:LV} {ep:Nat} (k0:R.E0.scope.kind≠.module) (f0:R.E0.frame=some R.F0) {es0:Array DictEntry} {ep0:Nat} (d0:fo0.data=.dict es0 ep0)
  (H1:OwnT w (sNmT w R fo fo0 v v' r r' i xs ep) (forN (nmC w R))):Vd w (sNmL w R fo fo0 v r i xs ep []):=by
 intro A s room base need imm nodup msk gn
 refine y_code _ _ _ _ _ _ ?_
 intro Γ p hc hΓ
 have h:=H1 A s ⟨room.handled,room.depth,room.units,room.env,room.frames,room.fr⟩ base need imm nodup msk gn Γ p hc hΓ
 obtain ⟨tgt,b,el,hl⟩:=forLoopC (nm_isFor w)
 have hcode:nmC w R=.forLoop tgt (.ref R.rit) b el (nmEnv w R):=hl _ _
 have hΓ':=hΓ.in
 rw [hc] at hΓ'
 change Γ.In (A.under (nmC w R)) at hΓ'
 rw [hcode] at hΓ'
 show Sem.wp _ Γ (denote table (nmC w R)) _ _ p s
 rw [hcode] at h ⊢
 change Sem.wp _ Γ (forTurn tgt (.ref R.rit) b el (nmEnv w R)>>=fun fin=>match fin with
  | .done f=>Sem.pure (PySem.Fin.done f)
  | .again _=>.unsupported "no") _ _ p s at h
 show Sem.wp _ Γ ((forTurn tgt (.ref R.rit) b el (nmEnv w R)).onRaise (fun x=>do noteFrame x (nmEnv w R);theTreesLotGoes x)) _ _ p s
 rw [Sem.wp_onRaise]
 rw [Sem.wp_bind'] at h
 refine Sem.wp_mono _ Γ _ (fun fin p1 s1 h1=>?_) (fun e p1 s1 h1=>?_) p s h
 ·cases fin with
  | «done» f=>
   exfalso
   simp only [Sem.wp_pure] at h1
   obtain ⟨x,_,hr,_⟩:=h1
   cases hr
  | again c=>simp at h1
 ·obtain ⟨x,_,hr,_,O⟩:=h1
  cases hr
  have hfr:(A.under (.forLoop tgt (.ref R.rit) b el (nmEnv w R))).frames=some [nmEnv w R,R.E0]:=by
   have:∀c,(A.under c).frames=pushEnvs c.envs A.frames:=fun _=>rfl
   rw [this,room.fr _ rfl,pushEnvs_eq];rfl
  have g1:=O.gv _ (.head _)
  have g2:=O.gv _ (.tail _ (.head _))
  have g3:=O.gv _ (.tail _ (.tail _ (.head _)))
  have g4:=O.gv _ (.tail _ (.tail _ (.tail _ (.head _))))
  have g0:=O.gv _ (.tail _ (.tail _ (.tail _ (.tail _ (.head _)))))
  have ge:=O.nw _ (.head _)
  have gT:=O.nw _ (.tail _ (.head _))
  have hl:FramesIn s1.heap [nmEnv w R,R.E0]:=framesIn_cons (kind_fn w R.F) rfl g1 rfl (framesIn_cons k0 f0 g0 d0 trivial)
  have hfs:([nmEnv w R,R.E0].filterMap (·.frame))=[R.F,R.F0]:=by simp [f0,nmEnv,fnEnv]
  have nin:∀a o,s.heap.get? a=some o->a≠x.2.2.2.e:=fun a o ha=>neq (Heap.lt_size ha) ge.2
  have n1:=nin _ _ (need _ (.head _))
  have n2:=nin _ _ (need _ (.tail _ (.head _)))
  have n3:=nin _ _ (need _ (.tail _ (.tail _ (.head _))))
  have n4:=nin _ _ (need _ (.tail _ (.tail _ (.tail _ (.head _)))))
  have n0:=nin _ _ (need _ (.tail _ (.tail _ (.tail _ (.tail _ (.head _))))))
  have nd:[R.F,R.rit,R.it,R.tl,R.F0].Nodup:=nodup
  obtain ⟨⟨a1,a2,a3,a4⟩,⟨b1,b2,b3⟩,⟨c1,c2⟩,d1⟩:=nd5i nd
  refine (wpAny_bind (wp_note hfr hl rfl ge.1 gT.1 fun h' T pl N=>wpAny_theTreesLotGoes ?_):wpAny (model pw w) (A.under (.forLoop tgt (.ref R.rit) b el (nmEnv w R))) (do noteFrame (.ref x.2.2.2.e) (nmEnv w R);theTreesLotGoes (.ref x.2.2.2.e)) (fun _ s'=>Post (sNmL w R fo fo0 v r i xs ep []) s (.error (.ref x.2.2.2.e)) s') (fun e s'=>Post (sNmL w R fo fo0 v r i xs ep []) s (.error e) s') s1) Γ p1 hΓ'
  rw [hfs] at N
  obtain ⟨t1,ht1⟩:=N.frames _ _ g1 n1
  obtain ⟨t0,ht0⟩:=N.frames _ _ g0 n0
  have k2:=N.keep R.rit _ (mn2 ⟨fun e=>a1 e.symm,b3⟩) n2 g2
  have k3:=N.keep R.it _ (mn2 ⟨fun e=>a2 e.symm,c2⟩) n3 g3
  have k4:=N.keep R.tl _ (mn2 ⟨fun e=>a3 e.symm,d1⟩) n4 g4
  refine ⟨⟨x.2.2.2.e,x.2.2.2.a,T,.ref x.2.2.2.T,pl,x.2.2.1,.int v x.1,t1,t0,v',r',i,[],ep⟩,rfl,rfl,rfl,?_⟩
  refine out_noted O (.head _) (fa (.head _) (fa (.tail _ (.tail _ (.tail _ (.tail _ (.head _))))) fa0)) N (fa ht1 (fa k2 (fa k3 (fa ?_ (fa ht0 fa0)))))
  show h'.get? R.tl=some (seqO (.type "list") none (xs++[]) ep)
  rw [List.append_nil];exact k4
theorem vcode_len:∀n,(vcode n).length=n.length
 | []=>rfl
 | a::n=>by rw [vcode_cons,List.length_cons,List.length_cons,vcode_len n]
def NumOk (n:LN):Prop:=n≠[]/\(∀f∈n,f<64)/\horner 0 n<2^60
theorem range_ok {w:World} {it k r:Nat}:Vd w (sRangeNext it (Int.ofNat k) (Int.ofNat (r+1)) 1 (Int.ofNat (k+1)) (Int.ofNat r)):=
 sRangeNext_valid (by simp <;>omega) (by simp) (by simp)
theorem sNmL_valid (R:NmR) (k0:R.E0.scope.kind≠.module) (f0:R.E0.frame=some R.F0):∀(nums:List LN) (w:World) (fo0:Obj) (es0:Array DictEntry) (ep0:Nat) (k r i:Nat) (xs:LV) (ep q3:Nat) (tv:Value),fo0.data=.dict es0 ep0->
  (R.l.drop i).map (·.1)=(nums.map vcode).flatten->(∀n∈nums,NumOk n)->nums.length<=r->xs.length+nums.length<=10000->
  Vd w (sNmL w R (nmF4 w R.q R.wv R.it R.tl q3 tv) fo0 (Int.ofNat k) (Int.ofNat (r+1)) i xs ep (nums.map (horner 0))):=by
 intro nums
 induction nums with
 | nil=>
  intro w fo0 es0 ep0 k r i xs ep q3 tv d0 hd hn hr hx
  have hi:R.l.length<=i:=List.drop_eq_nil_iff.mp (List.map_eq_nil_iff.mp hd)
  refine nm_raise (v':=Int.ofNat (k+1)) (r':=Int.ofNat r) k0 f0 d0 ?_
  rw [←forN_eq]
  revert w
  refine vRowT (fun w=>PySem.W.ZFast.zw325895916126816905 (nmC w R)) [] roNil ?_ ?_
  ·exact fun w s N0 t0 G_ D_ I_=>
    .u 0x40900009 (sRangeNext R.rit (Int.ofNat k) (Int.ofNat (r+1)) 1 (Int.ofNat (k+1)) (Int.ofNat r)) [3] [] (range_ok) tt fun x1 N1 t1=>
    .ui 0x1000060000f03c0f03c0601806 (sVarE w R.it R.L R.l R.ep i R.F (nmF4 w R.q R.wv R.it R.tl q3 (iv k x1)) R.F0 fo0 (nmEnv w R) R.E0) [6,0,12] [] (sVarE_valid _ (kind_fn _ _) rfl k0 f0 rfl d0 hi) (inJ I_) tt fun x2 N2 t2=>
    dn D_ 0x4 ((.error (.ref x2.2.e))) [(0,R.F,slt (nmF4 w R.q R.wv R.it R.tl q3 (iv k x1)) x2.2.s1),(3,R.rit,riO (Int.ofNat (k+1)) (Int.ofNat r) 1),(6,R.it,iterE i),(9,R.tl,seqO (.type "list") none xs ep),(12,R.F0,slt fo0 x2.2.s0)] [(1,x2.2.e,excO x2.2.a (.ref x2.2.T)),(4,x2.2.T,tbO .none x2.1 .none x2.2.pl)] [] fun s' O=>⟨(x1,x2.1,q3,x2.2),trivial,rfl,rfl,O.noGi⟩
  kernel_rfl
 | cons n nums ih=>
  intro w fo0 es0 ep0 k r i xs ep q3 tv d0 hd hn hr hx
  obtain ⟨hn0,hn1,hn2⟩:=hn n (.head _)
  have hd:(R.l.drop i).map (·.1)=vcode n++(nums.map vcode).flatten:=hd
  have hdr:(R.l.drop (i+n.length)).map (·.1)=(nums.map vcode).flatten:=by
   have hv:=vcode_len n
   rw [←List.drop_drop,List.map_drop,hd,List.drop_append_of_le_length (by lia),List.drop_of_length_le (by lia)];rfl
  match r,hr with
  | r+1,hr=>
   simp only [List.length_cons] at hr hx
   revert w
   refine vRow ?_ ?_
   ·exact fun w s N0 t0 G_ D_ I_=>
     .u 0x10240002400 (sRangeNext R.rit (Int.ofNat k) (Int.ofNat ((r+1)+1)) 1 (Int.ofNat (k+1)) (Int.ofNat (r+1))) [3] [] (range_ok) tt fun x1 N1 t1=>
     .ui 0x1000060000f03c0f03c0601806 (sVar R.it R.L R.l R.ep i (horner 0 n) (i+n.length)) [6] [] (sVar_valid _ n _ hn0 hn1 hd hn2) (inJ I_) tt fun x2 N2 t2=>
     psAppend 0x103c00 (Value.type "list") none R.tl xs ep (iv (horner 0 n) x2) (by lia) [9] [] fun x3 N3 t3=>
     .uq 0x1 (sNmL w R (nmF4 w R.q R.wv R.it R.tl q3 (iv k x1)) fo0 (Int.ofNat (k+1)) (Int.ofNat (r+1)) (i+n.length) (xs++[iv (horner 0 n) x2]) x3 (nums.map (horner 0))) [0,3,6,9,12] [] (ih _ fo0 es0 ep0 _ r _ _ _ _ _ d0 hdr (fun m hm=>hn m (.tail _ hm)) (by lia) (by simp;lia)) (inJ I_) tt fun x4 N4 t4 h4=>
     dn D_ 0x4 ((.error (.ref x4.e))) [(0,R.F,slt (nmF4 w R.q R.wv R.it R.tl x4.q3 x4.tv) x4.s1),(3,R.rit,riO x4.v x4.r 1),(6,R.it,iterE x4.i),(9,R.tl,seqO (.type "list") none ((xs++[iv (horner 0 n) x2])++ivs x4.vs) x4.ep),(12,R.F0,slt fo0 x4.s0)] [(1,x4.e,excO x4.a (.ref x4.T)),(4,x4.T,tbO x4.hd R.F (rawInt R.F) x4.pl)] [] fun s' O=>⟨{x4 with vs:=(horner 0 n,x2)::x4.vs},by show horner 0 n::x4.vs.map (·.1)=_;rw [show x4.vs.map (·.1)=_ from h4];rfl,rfl,rfl,by
      have:=O.noGi;rw [List.append_assoc] at this;exact this⟩
   kernel_rfl
theorem sNmL1_valid (R:NmR) (k0:R.E0.scope.kind≠.module) (f0:R.E0.frame=some R.F0) (nums:List LN) (w:World) (fo0:Obj) (es0:Array DictEntry) (ep0:Nat) (r:Nat) (ep:Nat) (d0:fo0.data=.dict es0 ep0)
  (hd:R.l.map (·.1)=(nums.map vcode).flatten) (hn:∀n∈nums,NumOk n) (hr:nums.length<=r) (hx:nums.length<=10000):
  Vd w (sNmL w R (nmF3 w R.q R.wv R.it R.tl) fo0 (Int.ofNat 0) (Int.ofNat (r+1)) 0 [] ep (nums.map (horner 0))):=by
 cases nums with
 | nil=>
  have hi:R.l.length<=0:=by rw [List.map_eq_nil_iff.mp hd];exact Nat.le_refl _
  refine nm_raise (v':=Int.ofNat (0+1)) (r':=Int.ofNat r) k0 f0 d0 ?_
  rw [←forN_eq]
  revert w
  refine vRowT (fun w=>PySem.W.ZFast.zw325895916126816905 (nmC w R)) [] roNil ?_ ?_
  ·exact fun w s N0 t0 G_ D_ I_=>
    .u 0x40900009 (sRangeNext R.rit (Int.ofNat 0) (Int.ofNat (r+1)) 1 (Int.ofNat (0+1)) (Int.ofNat r)) [3] [] (range_ok) tt fun x1 N1 t1=>
    .ui 0x1000060000f03c0f03c0601806 (sVarE w R.it R.L R.l R.ep 0 R.F (nmF4 w R.q R.wv R.it R.tl t1 (iv 0 x1)) R.F0 fo0 (nmEnv w R) R.E0) [6,0,12] [] (sVarE_valid _ (kind_fn _ _) rfl k0 f0 rfl d0 hi) (inJ I_) tt fun x2 N2 t2=>
    dn D_ 0x4 ((.error (.ref x2.2.e))) [(0,R.F,slt (nmF4 w R.q R.wv R.it R.tl t1 (iv 0 x1)) x2.2.s1),(3,R.rit,riO (Int.ofNat (0+1)) (Int.ofNat r) 1),(6,R.it,iterE 0),(9,R.tl,seqO (.type "list") none [] ep),(12,R.F0,slt fo0 x2.2.s0)] [(1,x2.2.e,excO x2.2.a (.ref x2.2.T)),(4,x2.2.T,tbO .none x2.1 .none x2.2.pl)] [] fun s' O=>⟨(x1,x2.1,t1,x2.2),trivial,rfl,rfl,O.noGi⟩
  kernel_rfl
 | cons n nums=>
  obtain ⟨hn0,hn1,hn2⟩:=hn n (.head _)
  have hd:(R.l.drop 0).map (·.1)=vcode n++(nums.map vcode).flatten:=hd
  have hdr:(R.l.drop (0+n.length)).map (·.1)=(nums.map vcode).flatten:=by
   have hv:=vcode_len n
   rw [←List.drop_drop,List.map_drop,hd,List.drop_append_of_le_length (by lia),List.drop_of_length_le (by lia)];rfl
  match r,hr with
  | r+1,hr=>
   simp only [List.length_cons] at hr hx
   revert w
   refine vRow ?_ ?_
   ·exact fun w s N0 t0 G_ D_ I_=>
     .u 0x10240002400 (sRangeNext R.rit (Int.ofNat 0) (Int.ofNat ((r+1)+1)) 1 (Int.ofNat (0+1)) (Int.ofNat (r+1))) [3] [] (range_ok) tt fun x1 N1 t1=>
     .ui 0x1000060000f03c0f03c0601806 (sVar R.it R.L R.l R.ep 0 (horner 0 n) (0+n.length)) [6] [] (sVar_valid _ n _ hn0 hn1 hd hn2) (inJ I_) tt fun x2 N2 t2=>
     psAppend 0x103c00 (Value.type "list") none R.tl [] ep (iv (horner 0 n) x2) (by simp) [9] [] fun x3 N3 t3=>
     .uq 0x1 (sNmL w R (nmF4 w R.q R.wv R.it R.tl t1 (iv 0 x1)) fo0 (Int.ofNat (0+1)) (Int.ofNat (r+1)) (0+n.length) ([]++[iv (horner 0 n) x2]) x3 (nums.map (horner 0))) [0,3,6,9,12] [] (sNmL_valid R k0 f0 nums _ fo0 es0 ep0 _ r _ _ _ _ _ d0 hdr (fun m hm=>hn m (.tail _ hm)) (by lia) (by simp;lia)) (inJ I_) tt fun x4 N4 t4 h4=>
     dn D_ 0x4 ((.error (.ref x4.e))) [(0,R.F,slt (nmF4 w R.q R.wv R.it R.tl x4.q3 x4.tv) x4.s1),(3,R.rit,riO x4.v x4.r 1),(6,R.it,iterE x4.i),(9,R.tl,seqO (.type "list") none (([]++[iv (horner 0 n) x2])++ivs x4.vs) x4.ep),(12,R.F0,slt fo0 x4.s0)] [(1,x4.e,excO x4.a (.ref x4.T)),(4,x4.T,tbO x4.hd R.F (rawInt R.F) x4.pl)] [] fun s' O=>⟨{x4 with vs:=(horner 0 n,x2)::x4.vs},by show horner 0 n::x4.vs.map (·.1)=_;rw [show x4.vs.map (·.1)=_ from h4];rfl,rfl,rfl,by
      have:=O.noGi;exact this⟩
   kernel_rfl
noncomputable def numHead (c:Code):Sem PySem.Fin:=match c with
 | .func (s0::s1::.Try [.For _ iter _ _ fp] _ _ _ pos::_) env=>do
  point
  match ←exec s0 env with
  | .next=>do
   match ←exec s1 env with
   | .next=>do
    standAt pos
    standAt fp
    let x ←foldedSetIterable iter env (←eval iter env)
    standAt iter.pos
    let it ←holding [x] (pyIter x)
    pure (.done (.ret it))
   | _=>.unsupported "no"
  | _=>.unsupported "no"
 | _=>.unsupported "no"
end Mine
lay_z Mine.numHead
namespace Mine
structure NHd where
 L:Nat
 l:List (Nat×Nat)
 ep:Nat
 it:Nat
 tl:Nat
 rit:Nat
 q:Nat->Nat
def nmF1 (w:World) (q0:Nat) (wv:Value):Obj:=frameO w [("word",q0,wv)] 1
def sNmH (w:World) (F q0:Nat) (wd:LN) (t n F0:Nat) (fo0:Obj):Summ where
 code:=.func (fnBody w 294) (fnEnv w 294 F [])
 need:=[(F,nmF1 w q0 (.str (st wd) t)),(F0,fo0)]
 Res:=NHd
 post:=fun x=>x.l.map (·.1)=wd
 res:=fun x=>.ok (.ret (.ref x.rit))
 upd:=fun x=>[nmF3 w x.q (.str (st wd) t) x.it x.tl,fo0]
 new:=fun x=>[(x.rit,riO (Int.ofNat 0) (Int.ofNat (n+1)) 1),(x.it,iterO x.L 0),(x.tl,seqO (.type "list") none [] 0)]
 giveImm:=fun x=>[(x.L,seqL (.type "list") none (ivs x.l) x.ep)]
 giv:=true
 d:=30
 u:=60
noncomputable def sameT (T:Nat) (h h':Heap):Prop:=(∀b,b≠T->h'.get? b=h.get? b)/\h'.objs.size=h.objs.size
section
variable {M:Model} {A:Around} {E:Value->Shared->Prop} {s:Shared}
theorem wp_flight {e a T L:Nat} {hd fl:Value} {pl:LV} {x:ON} {Q:Unit->Shared->Prop} (he:s.heap.get? e=some (excO a (.ref T))) (hT:s.heap.get? T=some (tbO hd L fl pl))
  (h:∀h',sameT T s.heap h'->h'.get? T=some (tbO hd L (x.elim .none fun f=>rawInt f) pl)->Q () {s with heap:=h'}):wpAny M A (setFlight (.ref e) x) Q E s:=by
 unfold setFlight
 refine wpAny_bind (wpAny_field he rfl (x:=.ref T) rfl ?_)
 rw [if_pos (show (Value.ref T !=Value.none)=true from by simp)]
 refine wpAny_setField hT rfl (by simp) (h _ ⟨fun b hb=>Heap.get?_update_other _ _ (Ne.symm hb),Heap.size_after_update ..⟩ (Heap.get?_update_self _ hT rfl))
theorem wp_noteAgain {env:Env} {e a T L:Nat} {hd:Value} {pl:LV} {Q:Unit->Shared->Prop} (hf:env.frame=some L) (he:s.heap.get? e=some (excO a (.ref T))) (hT:s.heap.get? T=some (tbO hd L (rawInt L) pl))
  (h:Q () s):wpAny M A (noteFrame (.ref e) env) Q E s:=by
 unfold noteFrame
 simp only [hf]
 refine wpAny_bind (wpAny_field he rfl (x:=.ref T) rfl ?_)
 rw [if_pos (show (Value.ref T !=Value.none)=true from by simp)]
 refine wpAny_bind (wpAny_field hT rfl (x:=rawInt L) rfl ?_)
 rw [if_pos (show (rawInt L==rawInt L)=true from by simp)]
 exact wpAny_pure h
end
theorem tb_ne {h:Heap} {e a T L:Nat} {hd fl v:Value} {pl:LV} (he:h.get? e=some (excO a v)) (hT:h.get? T=some (tbO hd L fl pl)):e≠T:=fun q=>by
 rw [q,hT] at he
 exact absurd (congrArg Obj.cls (Option.some.inj he)) (by intro q;have:=Value.type.inj q;revert this;decide)
theorem wp_caught {prog:Program} {w:World} {A:Around} {E:Value->Shared->Prop} {env:Env} {e a T L:Nat} {hd:Value} {pl:LV} {s:Shared} {hs:List ExceptHandler} {Q:Flow->Shared->Prop} (hf:env.frame=some L)
  (he:s.heap.get? e=some (excO a (.ref T))) (hT:s.heap.get? T=some (tbO hd L (rawInt L) pl))
  (h:∀h',sameT T s.heap h'->h'.get? T=some (tbO hd L .none pl)->wpAny (model prog w) A (handleBy (.ref e) env hs) Q E {s with heap:=h'}):
  cameBackBy (model prog w) A env (fun e s1=>wpAny (model prog w) A (noteFrame e env) (fun _ s2=>wpAny (model prog w) A (setFlight e none) (fun _ s3=>wpAny (model prog w) A (handleBy e env hs) Q E s3) E s2) E s1) (.ref e) s:=by
 unfold cameBackBy
 have ne:=tb_ne he hT
 refine wpAny_bind (wpAny_field he rfl (x:=.ref T) rfl ?_)
 rw [if_neg (show ¬((Value.ref T==Value.none)=true) from by simp),hf]
 refine wp_flight he hT fun h1 s1 t1=>?_
 have he1:=(s1.1 e ne).trans he
 refine wp_noteAgain hf he1 t1 ?_
 refine wp_flight he1 t1 fun h2 s2 t2=>?_
 exact h h2 ⟨fun b hb=>(s2.1 b hb).trans (s1.1 b hb),s2.2.trans s1.2⟩ t2
noncomputable def strKeysB (o:Obj):Bool:=match o.data with
 | .dict es _=>es.toList.all fun e=>match e.key with
  | .str _ _=>true
  | _=>false
 | _=>false
noncomputable def findB (o:Obj) (n:Str):Option Value:=match o.data with
 | .dict es _=>nsFind es n
 | _=>none
theorem ns_of {h:Heap} {a:Nat} {o:Obj} (ho:h.get? a=some o) (hs:strKeysB o=true):h.Ns a (findB o):=by
 unfold strKeysB at hs
 split at hs
 ·rename_i es ep hd
  refine ⟨o,es,ep,ho,hd,fun e he=>?_,fun n=>by unfold findB;rw [hd]⟩
  have z:=List.all_eq_true.mp hs e (by simpa using he)
  revert z
  cases e.key <;>intro z <;>first | exact ⟨_,_,rfl⟩ | cases z
 ·cases hs
theorem keysFreed {o:Obj} (h:strKeysB o=true):o.isFreed=false:=by
 unfold strKeysB at h
 split at h
 ·rename_i q;exact notFreed q rfl
 ·cases h
theorem base_ns {mk:Nat} {w:World} {h:Heap} (B:BaseOk mk w h) {a:Nat} (hm:Nat.testBit mk a=true) (hs:((tb w).get a).elim false strKeysB=true):h.Ns a (fun n=>((tb w).get a).bind fun o=>findB o n):=by
 cases q:(tb w).get a with
 | none=>rw [q] at hs;cases hs
 | some o=>rw [q] at hs;exact ns_of (B.get a o hm q (keysFreed hs)) hs
theorem keys3 (w:World):((tb w).get 3).elim false strKeysB=true:=by kernel_rfl
theorem keys0 (w:World):((tb w).get 0).elim false strKeysB=true:=by kernel_rfl
theorem stop3 (w:World):(((tb w).get 3).bind fun o=>findB o "StopIteration")=none:=by kernel_rfl
theorem stop0 (w:World):(((tb w).get 0).bind fun o=>findB o "StopIteration")=some (.type "StopIteration"):=by kernel_rfl
section
variable (w:World) (F:Nat)
theorem kind294:(fnEnv w 294 F []).scope.kind=.function:=by kernel_rfl
theorem kindStop:(fnEnv w 294 F []).kindOf "StopIteration"=some .globalImplicit:=by kernel_rfl
theorem kindTold:(fnEnv w 294 F []).kindOf "told"=some .local:=by kernel_rfl
end
noncomputable def shO:List Stmt->Option (Stmt×Stmt×Expr×Expr×List Stmt×List Stmt×Pos×Pos×Pos×Pos×Pos×List Stmt×Pos×List Stmt)
 | a::b::.Try [.For c d e f g] [.ExceptHandler (some (.Name _ h)) none [.Return (some (.Name _ i)) j] k] l [] m::n=>some (a,b,c,d,e,f,g,h,i,j,k,l,m,n)
 | _=>none
theorem shO_ok (w:World):(shO (fnBody w 294)).isSome=true:=by kernel_rfl
theorem shape_of (w:World):∃a b c d e f g h i j k l m n,fnBody w 294=a::b::.Try [.For c d e f g] [.ExceptHandler (some (.Name "StopIteration" h)) none [.Return (some (.Name "told" i)) j] k] l [] m::n:=by
 refine (fun {x} (h:fnBody w 294=x.1::x.2.1::.Try [.For x.2.2.1 x.2.2.2.1 x.2.2.2.2.1 x.2.2.2.2.2.1 x.2.2.2.2.2.2.1] [.ExceptHandler (some (.Name "StopIteration" x.2.2.2.2.2.2.2.1)) none [.Return (some (.Name "told" x.2.2.2.2.2.2.2.2.1)) x.2.2.2.2.2.2.2.2.2.1] x.2.2.2.2.2.2.2.2.2.2.1] x.2.2.2.2.2.2.2.2.2.2.2.1 [] x.2.2.2.2.2.2.2.2.2.2.2.2.1::x.2.2.2.2.2.2.2.2.2.2.2.2.2)=>⟨_,_,_,_,_,_,_,_,_,_,_,_,_,_,h⟩) (x:=(shO (fnBody w 294)).get (shO_ok w)) ?_
 kernel_rfl
theorem exc_base:isSubtype (.type "StopIteration") (.type "BaseException")=pure true:=by rw [isSubtype_type];kernel_rfl
theorem exc_nt:isSubtype (.type ((Manifest.find? "StopIteration").elim "type" fun x=>x.metatype)) (.type "tuple")=pure false:=by rw [isSubtype_type];kernel_rfl
theorem wp_handle {w:World} {A:Around} {E:Value->Shared->Prop} {F e a T:Nat} {hd:Value} {pl:LV} {tl:Nat} {p1 p2 p3 pE:Pos} {x y:Str} (hx:x="StopIteration") (hy:y="told") {s:Shared} {m:Str->Option Value} {Q:Flow->Shared->Prop}
  (B:BaseOk mask w s.heap) (he:s.heap.get? e=some (excO a (.ref T))) (hT:s.heap.get? T=some (tbO hd F .none pl)) (hm:∀h',sameT T s.heap h'->h'.Ns F m) (hv:m "told"=some (.ref tl))
  (h:∀h',sameT T s.heap h'->Q (.ret (.ref tl)) {s with heap:=h'}):
  wpAny (model pw w) A (handleBy (.ref e) (fnEnv w 294 F []) [.ExceptHandler (some (.Name x p1)) none [.Return (some (.Name y p2)) p3] pE]) Q E s:=by
 subst hx hy
 refine wpAny_handleBy_builtin (X:="StopIteration") (T:="StopIteration") (b:=true) exc_base exc_nt isSubtype_stop ?_
 refine wpAny_Name ?_ (by decide +kernel)
 unfold loadName
 simp only [Env.blockKind,kind294,kindStop,ScopeKind.isAnnotationScope,Bool.false_and,Bool.false_eq_true,if_false]
 refine loadGlobal_builtin (base_ns (a:=3) B (by decide +kernel) (keys3 w)) (stop3 w) (base_ns (a:=0) B (by decide +kernel) (keys0 w)) (stop0 w) ⟨rfl,⟨_,he,rfl⟩,?_⟩
 rw [if_pos trivial]
 refine wp_flight he hT fun h' s' t'=>?_
 refine wpAny_execs_cons (wpAny_Return_some (wpAny_Name (wpAny_loadName_local (kind294 w F) (kindTold w F) (hm h' s') hv ?_) (by decide +kernel)))
 exact h h' s'
theorem wpTwo {α β γ:Type} {M:Model} {Γ:PySem.Ctx} {m:Sem α} {f:α->Sem β} {g:α->Sem γ} {Q:β->Pos->Shared->Prop} {Q':γ->Pos->Shared->Prop} {E E':Value->Pos->Shared->Prop} {p:Pos} {s:Shared} (hE:∀e p s,¬E e p s) (h:Sem.wp M Γ (m>>=f) Q E p s) (k:∀r p s,Sem.wp M Γ (f r) Q E p s->Sem.wp M Γ (g r) Q' E' p s):Sem.wp M Γ (m>>=g) Q' E' p s:=by
 rw [Sem.wp_bind'] at h ⊢
 exact Sem.wp_mono _ Γ _ k (fun e p s h=>absurd h (hE _ _ _)) p s h
theorem numHead_wp {prog:Program} {w:World} {A:Around} {Γ:PySem.Ctx} (hΓ:Γ.In A) {s0 s1:Stmt} {tg iter:Expr} {b el:List Stmt} {fp:Pos} {h0:ExceptHandler} {oe:List Stmt} {pos:Pos} {rest:List Stmt} {env:Env} {Q Q':PySem.Fin->Pos->Shared->Prop} {E E':Value->Pos->Shared->Prop} {QQ:Value->Shared->Prop} {p:Pos} {s:Shared}
  (hE:∀e p s,¬E e p s) (h:Sem.wp (model prog w) Γ (numHead (.func (s0::s1::.Try [.For tg iter b el fp] [h0] oe [] pos::rest) env)) Q E p s) (hQ:∀v p s,QQ v s->Q' (.done (.ret v)) p s)
  (k:∀it p1 s1,Q (.done (.ret it)) p1 s1->Sem.wp (model prog w) Γ (runOwn (.forLoop tg it b el env) env) (fun _ _ _=>False) (fun e _ s'=>wpAny (model prog w) A (noteFrame e env) (fun _ s2=>wpAny (model prog w) A (setFlight e none) (fun _ s3=>wpAny (model prog w) A (handleBy e env [h0]) (fun f s4=>∃v,f=.ret v/\QQ v s4) (fun _ _=>False) s3) (fun _ _=>False) s2) (fun _ _=>False) s') p1 s1):
  Sem.wp (model prog w) Γ (denote table (.func (s0::s1::.Try [.For tg iter b el fp] [h0] oe [] pos::rest) env)) Q' E' p s:=by
 show Sem.wp _ Γ (point>>=fun _=>((execs (s0::s1::.Try [.For tg iter b el fp] [h0] oe [] pos::rest) env).onRaise (leaving env))>>=fun f=>match f with
  | .ret v=>ret v
  | _=>ret .none) Q' E' p s
 change Sem.wp _ Γ (point>>=fun _=>exec s0 env>>=fun f=>match f with
  | .next=>(exec s1 env>>=fun f=>match f with
   | .next=>(standAt pos>>=fun _=>standAt fp>>=fun _=>eval iter env>>=fun v=>foldedSetIterable iter env v>>=fun x=>standAt iter.pos>>=fun _=>holding [x] (pyIter x)>>=fun it=>pure (PySem.Fin.done (.ret it)))
   | _=>.unsupported "no")
  | _=>.unsupported "no") Q E p s at h
 have hp:(point:Sem Unit)=Sem.point [] Sem.pure:=rfl
 rw [Sem.wp_bind',hp,Sem.wp_point,Sem.wp_pure] at h ⊢
 rw [Sem.wp_bind',Sem.wp_onRaise,execs_cons]
 refine wpTwo hE h fun f p1 t1 h1=>?_
 cases f with
 | next=>
  show Sem.wp _ Γ (execs (s1::.Try [.For tg iter b el fp] [h0] oe [] pos::rest) env) _ _ p1 t1
  rw [execs_cons]
  refine wpTwo (m:=exec s1 env) hE h1 fun f p2 t2 h2=>?_
  cases f with
  | next=>
   show Sem.wp _ Γ (execs (.Try [.For tg iter b el fp] [h0] oe [] pos::rest) env) _ _ p2 t2
   rw [execs_cons,Sem.wp_bind',arm_exec_Try]
   refine wpTwo (m:=standAt pos) hE h2 fun _ p3 t3 h3=>?_
   unfold tryStmt
   simp only [List.isEmpty_nil,if_true,List.isEmpty_cons,Bool.false_and,Bool.false_eq_true,if_false]
   rw [Sem.wp_bind',Sem.wp_attempt,execs_cons,Sem.wp_bind',arm_exec_For]
   refine wpTwo (m:=standAt fp) hE h3 fun _ p4 t4 h4=>?_
   refine wpTwo hE h4 fun v p5 t5 h5=>?_
   refine wpTwo hE h5 fun x p6 t6 h6=>?_
   refine wpTwo hE h6 fun _ p7 t7 h7=>?_
   refine wpTwo hE h7 fun it p8 t8 h8=>?_
   have h8:Q (.done (.ret it)) p8 t8:=by
    have:Sem.wp (model prog w) Γ (Sem.pure (PySem.Fin.done (.ret it))) Q E p8 t8:=h8
    rwa [Sem.wp_pure] at this
   refine Sem.wp_mono _ Γ _ (fun _ _ _ hf=>hf.elim) (fun e p9 t9 h9=>?_) p8 t8 (k it p8 t8 h8)
   show Sem.wp _ Γ (noteFrame e env>>=fun _=>setFlight e none>>=fun _=>handleBy e env [h0]) _ _ p9 t9
   rw [Sem.wp_bind']
   refine Sem.wp_mono _ Γ _ (fun _ pa ta ha=>?_) (fun _ _ _ hf=>hf.elim) p9 t9 (h9 Γ p9 hΓ)
   rw [Sem.wp_bind']
   refine Sem.wp_mono _ Γ _ (fun _ pb tb hb=>?_) (fun _ _ _ hf=>hf.elim) pa ta (ha Γ pa hΓ)
   refine Sem.wp_mono _ Γ _ (fun f pc tc hc=>?_) (fun _ _ _ hf=>hf.elim) pb tb (hb Γ pb hΓ)
   obtain ⟨v,rfl,hv⟩:=hc
   show Sem.wp _ Γ (Sem.pure (Flow.ret v)) _ _ pc tc
   rw [Sem.wp_pure]
   show Sem.wp _ Γ (Sem.pure (PySem.Fin.done (.ret v))) _ _ pc tc
   rw [Sem.wp_pure]
   exact hQ v pc tc hv
  | _=>
   have h2:Sem.wp _ Γ (Sem.unsupported "no") Q E p2 t2:=h2
   simp at h2
 | _=>
  have h1:Sem.wp _ Γ (Sem.unsupported "no") Q E p1 t1:=h1
  simp at h1
def sListInit (S:Nat) (l:LN) (t:Nat):Summ where
 code:=.builtin "list.__init__" ⟨[.ref S,.str (st l) t],[]⟩
 need:=[(S,lst [] 0)]
 Res:=List (Nat×Nat)×Nat
 post:=fun x=>x.1.map (·.1)=l
 res:=fun _=>.ok (.ret .none)
 upd:=fun x=>[lst (chs x.1) x.2]
 d:=5
 u:=10
theorem chs_of:∀(l:LN) (vs:LV),vs.length=l.length->(∀(j:Nat) (v:Value),vs[j]? =some v->∃(c u:Nat),l[j]? =some c/\v=.str ⟨#[c]⟩ u)->∃r:List (Nat×Nat),vs=chs r/\r.map (·.1)=l
 | [],[],_,_=>⟨[],rfl,rfl⟩
 | [],_::_,h,_=>by simp at h
 | _::_,[],h,_=>by simp at h
 | c::l,v::vs,h,hv=>by
  obtain ⟨c',u,hc,rfl⟩:=hv 0 v rfl
  simp only [List.getElem?_cons_zero,Option.some.injEq] at hc
  subst hc
  obtain ⟨r,h1,h2⟩:=chs_of l vs (by simpa using h) fun j v hj=>by simpa using hv (j+1) v (by simpa using hj)
  exact ⟨(c,u)::r,by rw [h1];rfl,by rw [List.map_cons,h2]⟩
theorem sListInit_valid {w:World} {S:Nat} {l:LN} {t:Nat} (hl:l.length<=100000):Vd w (sListInit S l t):=fun A s room base need imm nodup msk gn=>by
 have hS:s.heap.get? S=some {cls:=.type "list",data:=.seq #[]}:=need _ (.head _)
 have hsz:(st l).cps.size=l.length:=by simp [st]
 refine codeAny_size ?_
 show codeAny (model pw w) A (.builtin "list.__init__" ⟨[.ref S,.str (st l) t],[]⟩) _ s
 refine codeB PySem.F.slot_list_init.plain PySem.F.entry_list_init ?_
 refine wpAny_list_init_str (R:=fun r s'=>s.heap.objs.size<=s'.heap.objs.size->Post (sListInit S l t) s r s') (hn:=by rw [hsz,sizeLine_eq];exact leT ‹_› rfl) room.handled (st l) t S hS fun h' tk acc' c' hk hS' hacc hsize=>?_
 obtain ⟨r,h1,h2⟩:=chs_of l acc'.toList (by have:=hacc.1;rw [hsz] at this;simpa using this) fun j v hj=>by
  obtain ⟨c,u,e1,e2⟩:=hacc.2 j v (by simpa using hj)
  exact ⟨c,u,by simpa [st] using e1,e2⟩
 have e:acc'=(chs r).toArray:=by rw [←h1]
 refine ⟨(r,c'),h2,rfl,rfl,⟨fun b o hb hn=>hk b o (fun e=>hn (by rw [e];exact .head _)) hb,fun p hp=>?_,fun _ h=>(nomatch h),fun _ h=>(nomatch h),List.nodup_nil,hsize,rfl,id⟩⟩
 have hp:p∈[(S,lst (chs r) c')]:=hp
 rcases iC hp with rfl | hp
 ·show h'.get? S=some (lst (chs r) c')
  rw [hS',e];rfl
 ·cases hp
def sListS (s:LN) (t:Nat):Summ where
 code:=.call (.type "list") ⟨[.str (st s) t],[]⟩
 Res:=Nat×List (Nat×Nat)×Nat
 post:=fun x=>x.2.1.map (·.1)=s
 res:=fun x=>.ok (.ret (.ref x.1))
 new:=fun x=>[(x.1,lst (chs x.2.1) x.2.2)]
 d:=20
 u:=40
theorem sListS_valid (w:World) {l:LN} {t:Nat} (hl:l.length<=100000):Vd w (sListS l t):=
 by
 revert w
 refine vRow ?_ ?_
 ·exact fun w s N0 t0 G_ D_ I_=>
   .up 0x40800008020030000000000 (sListInit N0 l t) [2] [2] (sListInit_valid hl) tt fun x1 N1 t1 h1=>
   endQ D_ 0x4 (N0,x1.1,x1.2) [] [1] [] fun s' O=>⟨(N0,x1.1,x1.2),h1,rfl,rfl,O⟩
 kernel_rfl
structure Item where
 esc:Bool
 c:Nat
 tc:Nat
 tb:Nat
noncomputable def Item.chs (i:Item) (l:List (Nat×Nat)):List (Nat×Nat):=match i.esc with
 | true=>(92,i.tb)::(i.c,i.tc)::l
 | false=>(i.c,i.tc)::l
noncomputable def itemChs:List Item->List (Nat×Nat)->List (Nat×Nat)
 | [],l=>l
 | i::is,l=>i.chs (itemChs is l)
noncomputable def cntN (n:Int):List Item->Int
 | []=>n
 | i::is=>cntN (if i.c=10 then n+1 else n) is
noncomputable def tokN (t:LN):List Item->LN
 | []=>t
 | i::is=>tokN (t++[i.c]) is
noncomputable def epN (n:Nat):List Item->Nat
 | []=>n
 | i::is=>epN (match i.esc with | true=>n+1+1 | false=>n+1) is
def tokF (w:World) (R:LexR) (q:Nat->Nat) (it:Nat) (tok:LN) (tk:Nat) (ch:Value):Obj:=
 frameO w [("self",q 0,.ref R.lx),("token",q 1,.str (st tok) tk),("fiter",q 2,.ref it),("ch",q 3,ch)] 4
def tokC (w:World) (p:List (Nat×Nat)) (f it:Nat):Code:=loopC (atS (fnBody w 239) 3 p) (.ref it) (fnEnv w 239 f [])
def sQ (w:World) (R:LexR) (f it m tq:Nat) (q:Nat->Nat) (n:Int) (tn:Nat) (is:List Item) (t34:Nat) (rest:List (Nat×Nat)) (ep:Nat) (tok:LN) (tk:Nat) (ch:Value):Summ where
 code:=tokC w [(0,1),(0,0)] f it
 need:=(f,tokF w R q it tok tk ch)::(it,itO m tq false)::(m,methO R)::lexLed w R n tn (itemChs is ((34,t34)::rest)) ep
 Res:=Nat×Nat
 res:=fun x=>.ok (.ret (.str (st (tokN tok is)) x.2))
 upd:=fun x=>tokF w R q it (tokN tok is) x.2 (.str (st [34]) t34)::itO m tq false::methO R::(lexLed w R (cntN n is) x.1 rest (epN ep is+1)).map (·.2)
 d:=35
 u:=70
noncomputable def Item.quotedOk (i:Item):Prop:=i.esc=false->i.c≠34/\i.c≠92
theorem sQ_valid (R:LexR) (f it m tq:Nat) (q:Nat->Nat) (t34:Nat) (rest:List (Nat×Nat)):∀(is:List Item) (w:World) (n:Int) (tn:Nat) (ep:Nat) (tok:LN) (tk:Nat) (ch:Value),
  (∀i∈is,i.quotedOk)->(itemChs is ((34,t34)::rest)).length<=50000->tok.length+is.length<=50000->Vd w (sQ w R f it m tq q n tn is t34 rest ep tok tk ch):=by
 intro is
 induction is with
 | nil=>
  intro w n tn ep tok tk ch hq hl ht
  revert w
  refine vRow ?_ ?_
  ·exact fun w s N0 t0 G_ D_ I_=>
    .u 0x10240002400 (sNext w R it m tq n tn 34 t34 rest ep) [3,6,9,12,15,18,21,24,27,30] [] (sNext_valid (by simp [itemChs] at hl;lia)) tt fun x1 N1 t1=>
    psStrEq 0x10000601806 (st [34]) t34 (Str.mk (Array.mk [34])) (t1+1) true (by simp [st]) [] fun x2 N2 t2=>
    endQ D_ 0x1006 (tn,tk) [0,3,6,9,12,15,18,21,24,27,30] [] [] fun s' O=>⟨(tn,tk),trivial,rfl,rfl,O⟩
  kernel_rfl
 | cons i is ih=>
  intro w n tn ep tok tk ch hq hl ht
  obtain ⟨esc,c,tc,tb⟩:=i
  have hi:=hq _ (.head _)
  cases esc with
  | false=>
   obtain ⟨h34,h92⟩:=hi rfl
   have hl':(itemChs is ((34,t34)::rest)).length+1<=50000:=hl
   have ht':tok.length+(is.length+1)<=50000:=ht
   revert w
   refine vRow ?_ ?_
   ·exact fun w s N0 t0 G_ D_ I_=>
     .u 0x10240002400 (sNext w R it m tq n tn c tc (itemChs is ((34,t34)::rest)) ep) [3,6,9,12,15,18,21,24,27,30] [] (sNext_valid (by lia)) tt fun x1 N1 t1=>
     psStrEq 0x10000601806 (st [c]) tc (Str.mk (Array.mk [34])) (t1+1) false (by simp [st,h34]) [] fun x2 N2 t2=>
     psStrEq 0x100006 (st [c]) tc (Str.mk (Array.mk [92])) (t2+0) false (by simp [st,h92]) [] fun x3 N3 t3=>
     .u 0x40001806 (sAdd tok tk [c] tc) [] [] (sAdd_valid (by simp;lia)) tt fun x4 N4 t4=>
     .u 0x101806 (sQ w R f it m tq q (if c=10 then n+1 else n) (if c=10 then x1 else tn) is t34 rest (ep+1) (tok++[c]) x4 (Value.str (st [c]) tc)) [0,3,6,9,12,15,18,21,24,27,30] [] (ih _ _ _ _ _ _ _ (fun i hi=>hq i (.tail _ hi)) (by lia) (by simp [List.length_append];lia)) tt fun x5 N5 t5=>
     endQ D_ 0x4 (x5.1,x5.2) [0,3,6,9,12,15,18,21,24,27,30] [] [] fun s' O=>⟨(x5.1,x5.2),trivial,rfl,rfl,O⟩
   kernel_rfl
  | true=>
   have hl':(itemChs is ((34,t34)::rest)).length+1+1<=50000:=hl
   have ht':tok.length+(is.length+1)<=50000:=ht
   revert w
   refine vRow ?_ ?_
   ·exact fun w s N0 t0 G_ D_ I_=>
     .u 0x10240002400 (sNext w R it m tq n tn 92 tb ((c,tc)::itemChs is ((34,t34)::rest)) ep) [3,6,9,12,15,18,21,24,27,30] [] (sNext_valid (by simp;lia)) tt fun x1 N1 t1=>
     psStrEq 0x10000601806 (st [92]) tb (Str.mk (Array.mk [34])) (t1+1) false (by simp [st]) [] fun x2 N2 t2=>
     psStrEq 0x100006 (st [92]) tb (Str.mk (Array.mk [92])) (t2+0) true (by simp [st]) [] fun x3 N3 t3=>
     .u 0x4000480f000000000003c000000003c000000003c06 (sRead w R n tn c tc (itemChs is ((34,t34)::rest)) (ep+1)) [9,12,15,18,21,24,27,30] [] (sRead_valid (by lia)) tt fun x4 N4 t4=>
     .u 0x4000180601806 (sAdd tok tk [c] tc) [] [] (sAdd_valid (by simp;lia)) tt fun x5 N5 t5=>
     .u 0x101806 (sQ w R f it m tq q (if c=10 then n+1 else n) (if c=10 then x4 else tn) is t34 rest (ep+1+1) (tok++[c]) x5 (Value.str (st [c]) tc)) [0,3,6,9,12,15,18,21,24,27,30] [] (ih _ _ _ _ _ _ _ (fun i hi=>hq i (.tail _ hi)) (by lia) (by simp [List.length_append];lia)) tt fun x6 N6 t6=>
     endQ D_ 0x4 (x6.1,x6.2) [0,3,6,9,12,15,18,21,24,27,30] [] [] fun s' O=>⟨(x6.1,x6.2),trivial,rfl,rfl,O⟩
   kernel_rfl
theorem ws_yes {c:Nat} (h:c=10\/c=9\/c=13\/c=32):(!(Builtin.Str.occurrences wsS ⟨#[c]⟩ 0 wsS.length 1).isEmpty)=true:=by
 rcases h with rfl | rfl | rfl | rfl <;>decide +kernel
theorem ws_no92:(!(Builtin.Str.occurrences wsS ⟨#[92]⟩ 0 wsS.length 1).isEmpty)=false:=by decide +kernel
theorem ws_no34:(!(Builtin.Str.occurrences wsS ⟨#[34]⟩ 0 wsS.length 1).isEmpty)=false:=by decide +kernel
section
variable (w:World) (R:LexR) (f it m tq:Nat) (q:Nat->Nat) (n:Int) (tn:Nat) (is:List Item)
def sB (wc wt:Nat) (rest:List (Nat×Nat)) (ep:Nat) (tok:LN) (tk:Nat) (ch:Value):Summ where
 code:=tokC w [(0,1),(1,2)] f it
 need:=(f,tokF w R q it tok tk ch)::(it,itO m tq false)::(m,methO R)::lexLed w R n tn (itemChs is ((wc,wt)::rest)) ep
 Res:=Nat×Nat
 res:=fun x=>.ok (.ret (.str (st (tokN tok is)) x.2))
 upd:=fun x=>tokF w R q it (tokN tok is) x.2 (.str (st [wc]) wt)::itO m tq false::methO R::(lexLed w R (if wc=10 then cntN n is+1 else cntN n is) x.1 rest (epN ep is+1)).map (·.2)
 d:=35
 u:=70
def sBZ (ep:Nat) (tok:LN) (tk:Nat) (ch:Value):Summ where
 code:=tokC w [(0,1),(1,2)] f it
 need:=(f,tokF w R q it tok tk ch)::(it,itO m tq false)::(m,methO R)::lexLed w R n tn (itemChs is []) ep
 Res:=Nat×Nat×Value
 res:=fun x=>.ok .next
 upd:=fun x=>tokF w R q it (tokN tok is) x.2.1 x.2.2::endO::methO R::(lexLed w R (cntN n is) x.1 [] (epN ep is)).map (·.2)
 d:=35
 u:=70
end
section
variable (R:LexR) (f it m tq:Nat) (q:Nat->Nat)
theorem sB_valid (wc wt:Nat) (hw:wc=10\/wc=9\/wc=13\/wc=32) (rest:List (Nat×Nat)):∀(is:List Item) (w:World) (n:Int) (tn:Nat) (ep:Nat) (tok:LN) (tk:Nat) (ch:Value),
  (∀i∈is,i.esc=true)->(itemChs is ((wc,wt)::rest)).length<=50000->tok.length+is.length<=50000->Vd w (sB w R f it m tq q n tn is wc wt rest ep tok tk ch):=by
 intro is
 induction is with
 | nil=>
  intro w n tn ep tok tk ch hq hl ht
  revert w
  refine vRow ?_ ?_
  ·exact fun w s N0 t0 G_ D_ I_=>
    .u 0x10240002400 (sNext w R it m tq n tn wc wt rest ep) [3,6,9,12,15,18,21,24,27,30] [] (sNext_valid (by simp [itemChs] at hl;lia)) tt fun x1 N1 t1=>
    .u 0x1000120000f03c000000003c00000000000f0180601806 (sStrIn wsS (R.q 3) (st [wc]) wt true) [] [] (sStrIn_valid (ws_yes hw)) tt fun x2 N2 t2=>
    endQ D_ 0x1006 (if wc=10 then x1 else tn,tk) [0,3,6,9,12,15,18,21,24,27,30] [] [] fun s' O=>⟨(if wc=10 then x1 else tn,tk),trivial,rfl,rfl,O⟩
  kernel_rfl
 | cons i is ih=>
  intro w n tn ep tok tk ch hq hl ht
  obtain ⟨esc,c,tc,tb⟩:=i
  have hi:esc=true:=hq _ (.head _)
  subst hi
  have hl':(itemChs is ((wc,wt)::rest)).length+1+1<=50000:=hl
  have ht':tok.length+(is.length+1)<=50000:=ht
  revert w
  refine vRow ?_ ?_
  ·exact fun w s N0 t0 G_ D_ I_=>
    .u 0x10240002400 (sNext w R it m tq n tn 92 tb ((c,tc)::itemChs is ((wc,wt)::rest)) ep) [3,6,9,12,15,18,21,24,27,30] [] (sNext_valid (by simp;lia)) tt fun x1 N1 t1=>
    .u 0x1000120000f03c000000003c00000000000f0180601806 (sStrIn wsS (R.q 3) (st [92]) tb false) [] [] (sStrIn_valid ws_no92) tt fun x2 N2 t2=>
    psStrEq 0x100006 (st [92]) tb (Str.mk (Array.mk [92])) (t2+0) true (by simp [st]) [] fun x3 N3 t3=>
    .u 0x4000480f000000000003c000000003c000000003c06 (sRead w R n tn c tc (itemChs is ((wc,wt)::rest)) (ep+1)) [9,12,15,18,21,24,27,30] [] (sRead_valid (by lia)) tt fun x4 N4 t4=>
    .u 0x4000180601806 (sAdd tok tk [c] tc) [] [] (sAdd_valid (by simp;lia)) tt fun x5 N5 t5=>
    .u 0x101806 (sB w R f it m tq q (if c=10 then n+1 else n) (if c=10 then x4 else tn) is wc wt rest (ep+1+1) (tok++[c]) x5 (Value.str (st [c]) tc)) [0,3,6,9,12,15,18,21,24,27,30] [] (ih _ _ _ _ _ _ _ (fun i hi=>hq i (.tail _ hi)) (by lia) (by simp [List.length_append];lia)) tt fun x6 N6 t6=>
    endQ D_ 0x4 (x6.1,x6.2) [0,3,6,9,12,15,18,21,24,27,30] [] [] fun s' O=>⟨(x6.1,x6.2),trivial,rfl,rfl,O⟩
  kernel_rfl
theorem sBZ_valid:∀(is:List Item) (w:World) (n:Int) (tn:Nat) (ep:Nat) (tok:LN) (tk:Nat) (ch:Value),
  (∀i∈is,i.esc=true)->(itemChs is []).length<=50000->tok.length+is.length<=50000->Vd w (sBZ w R f it m tq q n tn is ep tok tk ch):=by
 intro is
 induction is with
 | nil=>
  intro w n tn ep tok tk ch hq hl ht
  revert w
  refine vRow ?_ ?_
  ·exact fun w s N0 t0 G_ D_ I_=>
    .u 0x10240002400 (sNextZ w R it m tq n tn ep) [3,6,9,12,15,18,21,24,27,30] [] (sNextZ_valid) tt fun x1 N1 t1=>
    endQ D_ 0x400007 (tn,tk,ch) [0,3,6,9,12,15,18,21,24,27,30] [] [] fun s' O=>⟨(tn,tk,ch),trivial,rfl,rfl,O⟩
  kernel_rfl
 | cons i is ih=>
  intro w n tn ep tok tk ch hq hl ht
  obtain ⟨esc,c,tc,tb⟩:=i
  have hi:esc=true:=hq _ (.head _)
  subst hi
  have hl':(itemChs is []).length+1+1<=50000:=hl
  have ht':tok.length+(is.length+1)<=50000:=ht
  revert w
  refine vRow ?_ ?_
  ·exact fun w s N0 t0 G_ D_ I_=>
    .u 0x10240002400 (sNext w R it m tq n tn 92 tb ((c,tc)::itemChs is []) ep) [3,6,9,12,15,18,21,24,27,30] [] (sNext_valid (by simp;lia)) tt fun x1 N1 t1=>
    .u 0x1000120000f03c000000003c00000000000f0180601806 (sStrIn wsS (R.q 3) (st [92]) tb false) [] [] (sStrIn_valid ws_no92) tt fun x2 N2 t2=>
    psStrEq 0x100006 (st [92]) tb (Str.mk (Array.mk [92])) (t2+0) true (by simp [st]) [] fun x3 N3 t3=>
    .u 0x4000480f000000000003c000000003c000000003c06 (sRead w R n tn c tc (itemChs is []) (ep+1)) [9,12,15,18,21,24,27,30] [] (sRead_valid (by lia)) tt fun x4 N4 t4=>
    .u 0x4000180601806 (sAdd tok tk [c] tc) [] [] (sAdd_valid (by simp;lia)) tt fun x5 N5 t5=>
    .u 0x101806 (sBZ w R f it m tq q (if c=10 then n+1 else n) (if c=10 then x4 else tn) is (ep+1+1) (tok++[c]) x5 (Value.str (st [c]) tc)) [0,3,6,9,12,15,18,21,24,27,30] [] (ih _ _ _ _ _ _ _ (fun i hi=>hq i (.tail _ hi)) (by lia) (by simp [List.length_append];lia)) tt fun x6 N6 t6=>
    endQ D_ 0x4 (x6.1,x6.2.1,x6.2.2) [0,3,6,9,12,15,18,21,24,27,30] [] [] fun s' O=>⟨(x6.1,x6.2.1,x6.2.2),trivial,rfl,rfl,O⟩
  kernel_rfl
end
def sTokG (w:World) (R:LexR) (n:Int) (tn:Nat) (l:List (Nat×Nat)) (ep:Nat) (tok:LN) (n':Int) (l':List (Nat×Nat)) (ep':Nat):Summ where
 code:=.call (.ref 239) ⟨[.ref R.lx],[]⟩
 need:=lexLed w R n tn l ep++[(R.pb1,lst [] 0)]
 Res:=Nat×Nat
 res:=fun x=>.ok (.ret (.str (st tok) x.2))
 upd:=fun x=>(lexLed w R n' x.1 l' ep').map (·.2)++[lst [] 0]
 d:=45
 u:=90
section
variable (w:World) (R:LexR) (n:Int) (tn:Nat) (ep:Nat)
theorem sTokZ_valid:Vd w (sTokG w R n tn [] ep [] n [] ep):=by
 revert w
 refine vRow ?_ ?_
 ·exact fun w s N0 t0 G_ D_ I_=>
   .u 0x1038000380003800038000380e020080200b00000000000000000000024000180600000000000000001800000000000602000000080201e0001e0001e0001e0780900006018000000001800000000000602000000080200000002 (sNextZ w R (N0.add 2) (N0+1) (t0+7) n tn ep) [8,5,0,3,6,9,12,15,18,21] [2] (sNextZ_valid) tt fun x1 N1 t1=>
   endQ D_ 0x10070000a (tn,t0+4) [0,3,6,9,12,15,18,21,24] [] [] fun s' O=>⟨(tn,t0+4),trivial,rfl,rfl,O⟩
 kernel_rfl
theorem sTokQ_valid (t33:Nat) (is:List Item) (t34:Nat) (rest:List (Nat×Nat)) (hq:∀i∈is,i.quotedOk) (hl:(itemChs is ((34,t34)::rest)).length<=50000) (hi:is.length<=50000):
  Vd w (sTokG w R n tn ((34,t33)::itemChs is ((34,t34)::rest)) ep (tokN [] is) (cntN n is) rest (epN (ep+1) is+1)):=by
 revert w
 refine vRow ?_ ?_
 ·exact fun w s N0 t0 G_ D_ I_=>
   .u 0x1038000380003800038000380e020080200b00000000000000000000024000180600000000000000001800000000000602000000080201e0001e0001e0001e0780900006018000000001800000000000602000000080200000002 (sNext w R (N0.add 2) (N0+1) (t0+7) n tn 34 t33 (itemChs is ((34,t34)::rest)) ep) [8,5,0,3,6,9,12,15,18,21] [2,5,8] (sNext_valid (by lia)) tt fun x1 N1 t1=>
   .u 0x10000900006018000000001800000000000601c0701c07 (sStrIn wsS (R.q 3) (st [34]) t33 false) [] [1,4,7] (sStrIn_valid ws_no34) tt fun x2 N2 t2=>
   psStrEq 0x100007 (st [34]) t33 (Str.mk (Array.mk [34])) (t2+0) true (by simp [st]) [1,4,7] fun x3 N3 t3=>
   .u 0x40d0000d0000d03407 (sQ w R N0 (N0+2) (N0+1) (t0+7) (fun x=>match x with | 0=>t0 | 1=>t0+5 | 2=>t0+8 | x=>t1) n tn is t34 rest (ep+1) [] (t0+4) (Value.str (st [34]) t33)) [1,7,4,0,3,6,9,12,15,18,21] [] (sQ_valid _ _ _ _ _ _ _ _ _ _ _ _ _ _ _ _ hq hl (by simpa using hi)) tt fun x4 N4 t4=>
   endQ D_ 0x4 (x4.1,x4.2) [0,3,6,9,12,15,18,21,24] [] [] fun s' O=>⟨(x4.1,x4.2),trivial,rfl,rfl,O⟩
 kernel_rfl
theorem sTokB_valid (c tc tb:Nat) (is:List Item) (wc wt:Nat) (rest:List (Nat×Nat)) (hw:wc=10\/wc=9\/wc=13\/wc=32) (hq:∀i∈is,i.esc=true) (hl:(itemChs is ((wc,wt)::rest)).length<=40000) (hi:is.length<=40000):
  Vd w (sTokG w R n tn (itemChs (⟨true,c,tc,tb⟩::is) ((wc,wt)::rest)) ep (tokN [] (⟨true,c,tc,tb⟩::is)) (if wc=10 then cntN n (⟨true,c,tc,tb⟩::is)+1 else cntN n (⟨true,c,tc,tb⟩::is)) rest (epN ep (⟨true,c,tc,tb⟩::is)+1)):=by
 revert w
 refine vRow ?_ ?_
 ·exact fun w s N0 t0 G_ D_ I_=>
   .u 0x1038000380003800038000380e020080200b00000000000000000000024000180600000000000000001800000000000602000000080201e0001e0001e0001e0780900006018000000001800000000000602000000080200000002 (sNext w R (N0.add 2) (N0+1) (t0+7) n tn 92 tb (((Item.mk true c tc tb).c,(Item.mk true c tc tb).tc)::itemChs is ((wc,wt)::rest)) ep) [8,5,0,3,6,9,12,15,18,21] [2,5,8] (sNext_valid (by simp;lia)) tt fun x1 N1 t1=>
   .u 0x10000900006018000000001800000000000601c0701c07 (sStrIn wsS (R.q 3) (st [92]) tb false) [] [1,4,7] (sStrIn_valid ws_no92) tt fun x2 N2 t2=>
   psStrEq 0x100007 (st [92]) tb (Str.mk (Array.mk [34])) (t2+0) false (by simp [st]) [1,4,7] fun x3 N3 t3=>
   psStrEq 0x100007 (st [92]) tb (Str.mk (Array.mk [92])) (t3+0) true (by simp [st]) [1,4,7] fun x4 N4 t4=>
   .u 0x4000240600000000000180000000018000000001807 (sRead w R n tn c tc (itemChs is ((wc,wt)::rest)) (ep+1)) [0,3,6,9,12,15,18,21] [1,4,7] (sRead_valid (by lia)) tt fun x5 N5 t5=>
   .u 0x40001c0701c07 (sAdd [] (t0+4) [c] tc) [] [1,4,7] (sAdd_valid (by simp)) tt fun x6 N6 t6=>
   .u 0x40d0000d0000d0340701c07 (sB w R N0 (N0+2) (N0+1) (t0+7) (fun x=>match x with | 0=>t0 | 1=>t0+5 | 2=>t0+8 | x=>t1) (if c=10 then n+1 else n) (if c=10 then x5 else tn) is wc wt rest (ep+1+1) [c] x6 (Value.str (st [c]) tc)) [1,7,4,0,3,6,9,12,15,18,21] [] (sB_valid _ _ _ _ _ _ _ _ hw _ _ _ _ _ _ _ _ _ hq (by exact leT ‹_› rfl) (by simp;lia)) tt fun x7 N7 t7=>
   endQ D_ 0x4 (x7.1,x7.2) [0,3,6,9,12,15,18,21,24] [] [] fun s' O=>⟨(x7.1,x7.2),trivial,rfl,rfl,O⟩
 kernel_rfl
theorem sTokBZ_valid (c tc tb:Nat) (is:List Item) (hq:∀i∈is,i.esc=true) (hl:(itemChs is []).length<=40000) (hi:is.length<=40000):
  Vd w (sTokG w R n tn (itemChs (⟨true,c,tc,tb⟩::is) []) ep (tokN [] (⟨true,c,tc,tb⟩::is)) (cntN n (⟨true,c,tc,tb⟩::is)) [] (epN ep (⟨true,c,tc,tb⟩::is))):=by
 revert w
 refine vRow ?_ ?_
 ·exact fun w s N0 t0 G_ D_ I_=>
   .u 0x1038000380003800038000380e020080200b00000000000000000000024000180600000000000000001800000000000602000000080201e0001e0001e0001e0780900006018000000001800000000000602000000080200000002 (sNext w R (N0.add 2) (N0+1) (t0+7) n tn 92 tb (((Item.mk true c tc tb).c,(Item.mk true c tc tb).tc)::itemChs is []) ep) [8,5,0,3,6,9,12,15,18,21] [2,5,8] (sNext_valid (by simp;lia)) tt fun x1 N1 t1=>
   .u 0x10000900006018000000001800000000000601c0701c07 (sStrIn wsS (R.q 3) (st [92]) tb false) [] [1,4,7] (sStrIn_valid ws_no92) tt fun x2 N2 t2=>
   psStrEq 0x100007 (st [92]) tb (Str.mk (Array.mk [34])) (t2+0) false (by simp [st]) [1,4,7] fun x3 N3 t3=>
   psStrEq 0x100007 (st [92]) tb (Str.mk (Array.mk [92])) (t3+0) true (by simp [st]) [1,4,7] fun x4 N4 t4=>
   .u 0x4000240600000000000180000000018000000001807 (sRead w R n tn c tc (itemChs is []) (ep+1)) [0,3,6,9,12,15,18,21] [1,4,7] (sRead_valid (by lia)) tt fun x5 N5 t5=>
   .u 0x40001c0701c07 (sAdd [] (t0+4) [c] tc) [] [1,4,7] (sAdd_valid (by simp)) tt fun x6 N6 t6=>
   .u 0x40d0000d0000d0340701c07 (sBZ w R N0 (N0+2) (N0+1) (t0+7) (fun x=>match x with | 0=>t0 | 1=>t0+5 | 2=>t0+8 | x=>t1) (if c=10 then n+1 else n) (if c=10 then x5 else tn) is (ep+1+1) [c] x6 (Value.str (st [c]) tc)) [1,7,4,0,3,6,9,12,15,18,21] [1,7] (sBZ_valid _ _ _ _ _ _ _ _ _ _ _ _ _ _ hq (by exact leT ‹_› rfl) (by simp;lia)) tt fun x7 N7 t7=>
   .u 0x10280002800 (sNextE w (N0+2)) [4] [1] (sNextE_valid) tt fun x8 N8 t8=>
   endQ D_ 0x10070000a (x7.1,x7.2.1) [0,3,6,9,12,15,18,21,24] [] [] fun s' O=>⟨(x7.1,x7.2.1),trivial,rfl,rfl,O⟩
 kernel_rfl
end
structure RdRes where
 tp:Nat
 W:Nat
 ep:Nat
 tk:Nat->Nat
 tn:Nat
 cd:Nat
 v:Value
 q:Nat
 r:LV
def wordVs (W:Nat->LN) (tk:Nat->Nat):LV:=[.str (st (W 0)) (tk 0),.str (st (W 1)) (tk 1),.str (st (W 2)) (tk 2),.str (st (W 3)) (tk 3),.str (st (W 4)) (tk 4),.str (st (W 5)) (tk 5),.str (st (W 6)) (tk 6),.str (st (W 7)) (tk 7)]
section
variable (page:LN) (t:Nat) (W:Nat->LN) (n:Int)
def sRd1:Summ where
 code:=.call (.ref 289) ⟨[.str (st page) t],[]⟩
 need:=[(286,tab 195 18 none)]
 Res:=RdRes
 res:=fun x=>.ok (.ret (.ref x.tp))
 upd:=fun x=>[tab 195 18 (some x.cd)]
 new:=fun x=>[(x.tp,tup [.ref x.W,.int n x.tn]),(x.W,lst (wordVs W x.tk) x.ep),(x.cd,codeO x.v x.q x.r)]
 d:=80
 u:=160
def sRd2 (cd:Nat) (v:Value) (q:Nat) (r:LV):Summ where
 code:=.call (.ref 289) ⟨[.str (st page) t],[]⟩
 need:=[(286,tab 195 18 (some cd)),(cd,codeO v q r)]
 Res:=RdRes
 res:=fun x=>.ok (.ret (.ref x.tp))
 upd:=fun x=>[tab 195 18 (some cd),codeO v q r]
 new:=fun x=>[(x.tp,tup [.ref x.W,.int n x.tn]),(x.W,lst (wordVs W x.tk) x.ep)]
 d:=80
 u:=160
end
structure ReadsSo (page:LN) (W:Nat->LN) (nn:Nat->Int) (E:Nat->Nat):Prop where
 n0:nn 0=1
 e0:E 0=0
 tok:∀x:List (Nat×Nat),x.map (·.1)=page->∀i,i<8->∀(w:World) (R:LexR) (tn a:Nat),Vd w (sTokG w R (nn i) tn (x.drop (E i)) (a+E i) (W i) (nn (i+1)) (x.drop (E (i+1))) (a+E (i+1)))
theorem ReadsSo.first {page:LN} {W:Nat->LN} {nn:Nat->Int} {E:Nat->Nat} (h:ReadsSo page W nn E) {x:List (Nat×Nat)} (hx:x.map (·.1)=page) (w:World) (R:LexR) (tn a:Nat):Vd w (sTokG w R 1 tn x a (W 0) (nn 1) (x.drop (E 1)) (a+E 1)):=by
 have z:=h.tok x hx 0 (by decide) w R tn a
 rw [h.n0,h.e0] at z
 exact z
noncomputable def rdA (N0 N1 t1 y:Nat):LexR:=LexR.mk (N1+13) (N1+12) (N1+1) N1 (N1+11) (N1+10) (N0+2) y (N1+15) (N1+3) (N1+4) (fun x=>match x with | 0=>t1+26 | 1=>t1+28 | 2=>t1+31 | 3=>t1+29 | 4=>t1+33 | 5=>t1+4 | 6=>t1+2 | 7=>t1+6 | 8=>t1+9 | 9=>t1+7 | 10=>t1+11 | 11=>t1+21 | 12=>t1+14 | x=>600) (Value.str (Str.ofString "<lambda>") (t1+13)) [Value.str (Str.ofString "/claim/cut.py") (t1+15),Value.int 195 0,Value.int 1 0,Value.int 0 0,Value.int 0 0,Value.int 19 0,Value.ref (N1+5),Value.bool true,Value.int 276 0,Value.ref (N1+6),Value.none,Value.ref (N1+7),Value.ref (N1+8),Value.ref (N1+9),Value.int (Int.ofNat (t1+18)) 0,Value.int 195 0,Value.str (Str.ofString "/claim/cut.py") (t1+19)]
noncomputable def rdB (N0 N1 t1 y cd q:Nat) (v:Value) (r:LV):LexR:=LexR.mk (N1+7) (N1+6) (N1+1) N1 (N1+5) cd (N0+2) y (N1+9) (N1+3) (N1+4) (fun x=>match x with | 0=>t1+19 | 1=>t1+21 | 2=>t1+24 | 3=>t1+22 | 4=>t1+26 | 5=>t1+4 | 6=>t1+2 | 7=>t1+6 | 8=>t1+9 | 9=>t1+7 | 10=>t1+11 | 11=>t1+14 | 12=>q | x=>600) v r
section
variable (w:World) {page:LN} {t:Nat} {W:Nat->LN} (nn:Nat->Int) (E:Nat->Nat)
theorem sRd1_valid (h:ReadsSo page W nn E) (hl:page.length<=50000):Vd w (sRd1 page t W (nn 8)):=by
 revert w
 refine vRow2 [] roNil ?_ ?_
 ·exact fun cc w s N0 t0 G_ D_ I_=>
   .up 0x10200000000000080200000002 (sListS page t) [] [2,5,8] (sListS_valid _ (by exact leT ‹_› rfl)) tt fun x1 N1 t1 h1=>
   have T:=h.tok x1.2.1 h1
   .u (cond cc 0x10002c0bc00000000002f000000002f000000002f028411043b0ec3b0ec3b0ec3b0003b0003b000000ec380e03800038000380e03800038000380e00000000000000000a0282c0b02c0002f000000002f0002f000000bc00000000002f0c82c0b02c0002f000000002f0002f000000bc00000000002f0c82c0b02c0002f000000002f0002f000000bc00000000002f0c8320b02c0b0000bc00000000bc000bc000002f00000000000bc32000000c8320c8320000000800000000002f0002f000000000000000000000000000000000000000000000000000000000000000000000000000000000000700008020080000b000000000b0000b0000002c00000000000b01c000000001806018060000701c08020080000b000000000b0000b0000002c00000000000b03808020080000b000000000b0000b0000002c00000000000b03808020080000b000000000b0000b0000002c00000000000b0380e020080200002c000000002c0002c000000b000000000002c0e000000380e0380e0000000800000000000b0000b00000000000000000000000000000000000000000000000000000000000000000000000000000000000000340d 0x10002c0bc00000000002f000000002f000000002f028411043b0ec3b0ec3b0ec3b0003b0003b0003b0003b0003b0ec000ec380e03800038000380e03800038000380e00000000000000000a0282c0b02c0002f000000002f0002f000000bc00000000002f0c82c0b02c0002f000000002f0002f000000bc00000000002f0c82c0b02c0002f000000002f0002f000000bc00000000002f0c8320b02c0b0000bc00000000bc000bc000002f00000000000bc32000000c8320c8320000000800000000002f0002f000000000000000000000000000000000000000000000000000000000000000000000000000000000000700008020080000b000000000b0000b0000002c00000000000b01c000000001806018060000701c08020080000b000000000b0000b0000002c00000000000b03808020080000b000000000b0000b0000002c00000000000b03808020080000b000000000b0000b0000002c00000000000b0380e020080200002c000000002c0002c000000b000000000002c0e000000380e0380e0000000800000000000b0000b00000000000000000000000000000000000000000000000000000000000000000000000000000000000000340d) (sTokG w (rdA N0 N1 t1 x1.fst) 1 (t1+24) x1.snd.fst x1.snd.snd (W 0) (nn 1) (List.drop (E 1) x1.snd.fst) (x1.snd.snd+E 1)) [41,38,5,2,35,32,7,10,47] [1,4,7,10,2,5,32,35,38,41,47,53,56,59] (h.first h1 _ _ _ _) tt fun x2 N2 t2=>
   .u 0x40007c220000000000088000000008800000000880a0b82e0a0280a0280a0280a0000a0000a0000ac2b0ac000ac00 (sTokG w (rdA N0 N1 t1 x1.fst) (nn 1) x2.fst (List.drop (E 1) x1.snd.fst) (x1.snd.snd+E 1) (W 1) (nn 2) (List.drop (E 2) x1.snd.fst) (x1.snd.snd+E 2)) [28,25,16,13,22,19,7,10,31] [1,4,7,10,13,16,19,22,25,28,31,34,37,40] (T 1 (by decide) _ _ _ _) tt fun x3 N3 t3=>
   .u 0x40007c220000000000088000000008800000000880a0b82e0a0280a0280a0280a0000a0000a0000ac2b0ac000ac00 (sTokG w (rdA N0 N1 t1 x1.fst) (nn 2) x3.fst (List.drop (E 2) x1.snd.fst) (x1.snd.snd+E 2) (W 2) (nn 3) (List.drop (E 3) x1.snd.fst) (x1.snd.snd+E 3)) [28,25,16,13,22,19,7,10,31] [1,4,7,10,13,16,19,22,25,28,31,34,37,40] (T 2 (by decide) _ _ _ _) tt fun x4 N4 t4=>
   .u 0x40007c220000000000088000000008800000000880a0b82e0a0280a0280a0280a0000a0000a0000ac2b0ac000ac00 (sTokG w (rdA N0 N1 t1 x1.fst) (nn 3) x4.fst (List.drop (E 3) x1.snd.fst) (x1.snd.snd+E 3) (W 3) (nn 4) (List.drop (E 4) x1.snd.fst) (x1.snd.snd+E 4)) [28,25,16,13,22,19,7,10,31] [1,4,7,10,13,16,19,22,25,28,31,34,37,40] (T 3 (by decide) _ _ _ _) tt fun x5 N5 t5=>
   .u 0x40007c220000000000088000000008800000000880a0b82e0a0280a0280a0280a0000a0000a0000ac2b0ac000ac00 (sTokG w (rdA N0 N1 t1 x1.fst) (nn 4) x5.fst (List.drop (E 4) x1.snd.fst) (x1.snd.snd+E 4) (W 4) (nn 5) (List.drop (E 5) x1.snd.fst) (x1.snd.snd+E 5)) [28,25,16,13,22,19,7,10,31] [1,4,7,10,13,16,19,22,25,28,31,34,37,40] (T 4 (by decide) _ _ _ _) tt fun x6 N6 t6=>
   .u 0x40007c220000000000088000000008800000000880a0b82e0a0280a0280a0280a0000a0000a0000ac2b0ac000ac00 (sTokG w (rdA N0 N1 t1 x1.fst) (nn 5) x6.fst (List.drop (E 5) x1.snd.fst) (x1.snd.snd+E 5) (W 5) (nn 6) (List.drop (E 6) x1.snd.fst) (x1.snd.snd+E 6)) [28,25,16,13,22,19,7,10,31] [1,4,7,10,13,16,19,22,25,28,31,34,37,40] (T 5 (by decide) _ _ _ _) tt fun x7 N7 t7=>
   .u 0x40007c220000000000088000000008800000000880a0b82e0a0280a0280a0280a0000a0000a0000ac2b0ac000ac00 (sTokG w (rdA N0 N1 t1 x1.fst) (nn 6) x7.fst (List.drop (E 6) x1.snd.fst) (x1.snd.snd+E 6) (W 6) (nn 7) (List.drop (E 7) x1.snd.fst) (x1.snd.snd+E 7)) [28,25,16,13,22,19,7,10,31] [1,4,7,10,13,16,19,22,25,28,31,34,37,40] (T 6 (by decide) _ _ _ _) tt fun x8 N8 t8=>
   .u 0x40007c220000000000088000000008800000000880a0b82e0a0280a0280a0280a0000a0000a0000ac2b0ac000ac00 (sTokG w (rdA N0 N1 t1 x1.fst) (nn 7) x8.fst (List.drop (E 7) x1.snd.fst) (x1.snd.snd+E 7) (W 7) (nn 8) (List.drop (E 8) x1.snd.fst) (x1.snd.snd+E 8)) [28,25,16,13,22,19,7,10,31] [1,4,19,25,28,34,37,40] (T 7 (by decide) _ _ _ _) tt fun x9 N9 t9=>
   endQ D_ 0x10100001304c000000004c000000000013028070701c0700701c0b05816058000580005800064190640006400 (⟨N9+2,N1+18,8,(fun | 0=>x2.2 | 1=>x3.2 | 2=>x4.2 | 3=>x5.2 | 4=>x6.2 | 5=>x7.2 | 6=>x8.2 | _=>x9.2),x9.1,N1+10,.str "<lambda>" (t1+13),t1+14,[.str "/claim/cut.py" (t1+15),.int 195 0,.int 1 0,.int 0 0,.int 0 0,.int 19 0,.ref (N1+5),.bool true,.int 276 0,.ref (N1+6),.none,.ref (N1+7),.ref (N1+8),.ref (N1+9),.int (Int.ofNat (t1+18)) 0,.int 195 0,.str "/claim/cut.py" (t1+19)]⟩:RdRes) [0] [8,19,7] [] fun s' O=>⟨_,trivial,rfl,rfl,O⟩
 kernel_rfl
theorem sRd2_valid {cd:Nat} {v:Value} {q:Nat} {r:LV} (h:ReadsSo page W nn E) (hl:page.length<=50000):Vd w (sRd2 page t W (nn 8) cd v q r):=by
 revert w
 refine vRow2 [] roNil ?_ ?_
 ·exact fun cc w s N0 t0 G_ D_ I_=>
   .up 0x10200000000000080200000002 (sListS page t) [] [2,5,8] (sListS_valid _ (by exact leT ‹_› rfl)) tt fun x1 N1 t1 h1=>
   have T:=h.tok x1.2.1 h1
   .u (cond cc 0x4000681d0000000000074000000007400000000740a0bc2f0a4290a4290a4290a4000a4000a40000029098260980009800098260980009800098260000000000000000280a0681a06800074000000007400074000001d0000000000074200681a06800074000000007400074000001d0000000000074200681a06800074000000007400074000001d0000000000074200801a0681a0001d000000001d0001d0000007400000000001d0800000020080200800000002000000000007400074000000000000000000000000000000000000000000000000000000000000000000000000000000000001c00020080200002c000000002c0002c000000b000000000002c0700000000060000701c08020080000b000000000b0000b0000002c00000000000b03808020080000b000000000b0000b0000002c00000000000b03808020080000b000000000b0000b0000002c00000000000b0380e020080200002c000000002c0002c000000b000000000002c0e000000380e0380e0000000800000000000b0000b00000000000000000000000000000000000000000000000000000000000000000000000000000000000000340d 0x4000681d0000000000074000000007400000000740a0bc2f0a4290a4290a4290a4000a4000a4000a4000a4000a42900029098260980009800098260980009800098260000000000000000280a0681a06800074000000007400074000001d0000000000074200681a06800074000000007400074000001d0000000000074200681a06800074000000007400074000001d0000000000074200801a0681a0001d000000001d0001d0000007400000000001d0800000020080200800000002000000000007400074000000000000000000000000000000000000000000000000000000000000000000000000000000000001c00020080200002c000000002c0002c000000b000000000002c0700000000060000701c08020080000b000000000b0000b0000002c00000000000b03808020080000b000000000b0000b0000002c00000000000b03808020080000b000000000b0000b0000002c00000000000b0380e020080200002c000000002c0002c000000b000000000002c0e000000380e0380e0000000800000000000b0000b00000000000000000000000000000000000000000000000000000000000000000000000000000000000000340d) (sTokG w (rdB N0 N1 t1 x1.fst cd q v r) 1 (t1+17) x1.snd.fst x1.snd.snd (W 0) (nn 1) (List.drop (E 1) x1.snd.fst) (x1.snd.snd+E 1)) [23,20,5,2,17,3,7,10,29] [1,4,7,10,2,5,17,20,23,29,35,38,41] (h.first h1 _ _ _ _) tt fun x2 N2 t2=>
   .u 0x4000701f000000000007c000000007c000000007c0a0ac2b0942509425094250940009400094000a0280a0000a000 (sTokG w (rdB N0 N1 t1 x1.fst cd q v r) (nn 1) x2.fst (List.drop (E 1) x1.snd.fst) (x1.snd.snd+E 1) (W 1) (nn 2) (List.drop (E 2) x1.snd.fst) (x1.snd.snd+E 2)) [25,22,16,13,19,3,7,10,28] [1,4,7,10,13,16,19,22,25,28,31,34,37] (T 1 (by decide) _ _ _ _) tt fun x3 N3 t3=>
   .u 0x4000701f000000000007c000000007c000000007c0a0ac2b0942509425094250940009400094000a0280a0000a000 (sTokG w (rdB N0 N1 t1 x1.fst cd q v r) (nn 2) x3.fst (List.drop (E 2) x1.snd.fst) (x1.snd.snd+E 2) (W 2) (nn 3) (List.drop (E 3) x1.snd.fst) (x1.snd.snd+E 3)) [25,22,16,13,19,3,7,10,28] [1,4,7,10,13,16,19,22,25,28,31,34,37] (T 2 (by decide) _ _ _ _) tt fun x4 N4 t4=>
   .u 0x4000701f000000000007c000000007c000000007c0a0ac2b0942509425094250940009400094000a0280a0000a000 (sTokG w (rdB N0 N1 t1 x1.fst cd q v r) (nn 3) x4.fst (List.drop (E 3) x1.snd.fst) (x1.snd.snd+E 3) (W 3) (nn 4) (List.drop (E 4) x1.snd.fst) (x1.snd.snd+E 4)) [25,22,16,13,19,3,7,10,28] [1,4,7,10,13,16,19,22,25,28,31,34,37] (T 3 (by decide) _ _ _ _) tt fun x5 N5 t5=>
   .u 0x4000701f000000000007c000000007c000000007c0a0ac2b0942509425094250940009400094000a0280a0000a000 (sTokG w (rdB N0 N1 t1 x1.fst cd q v r) (nn 4) x5.fst (List.drop (E 4) x1.snd.fst) (x1.snd.snd+E 4) (W 4) (nn 5) (List.drop (E 5) x1.snd.fst) (x1.snd.snd+E 5)) [25,22,16,13,19,3,7,10,28] [1,4,7,10,13,16,19,22,25,28,31,34,37] (T 4 (by decide) _ _ _ _) tt fun x6 N6 t6=>
   .u 0x4000701f000000000007c000000007c000000007c0a0ac2b0942509425094250940009400094000a0280a0000a000 (sTokG w (rdB N0 N1 t1 x1.fst cd q v r) (nn 5) x6.fst (List.drop (E 5) x1.snd.fst) (x1.snd.snd+E 5) (W 5) (nn 6) (List.drop (E 6) x1.snd.fst) (x1.snd.snd+E 6)) [25,22,16,13,19,3,7,10,28] [1,4,7,10,13,16,19,22,25,28,31,34,37] (T 5 (by decide) _ _ _ _) tt fun x7 N7 t7=>
   .u 0x4000701f000000000007c000000007c000000007c0a0ac2b0942509425094250940009400094000a0280a0000a000 (sTokG w (rdB N0 N1 t1 x1.fst cd q v r) (nn 6) x7.fst (List.drop (E 6) x1.snd.fst) (x1.snd.snd+E 6) (W 6) (nn 7) (List.drop (E 7) x1.snd.fst) (x1.snd.snd+E 7)) [25,22,16,13,19,3,7,10,28] [1,4,7,10,13,16,19,22,25,28,31,34,37] (T 6 (by decide) _ _ _ _) tt fun x8 N8 t8=>
   .u 0x4000701f000000000007c000000007c000000007c0a0ac2b0942509425094250940009400094000a0280a0000a000 (sTokG w (rdB N0 N1 t1 x1.fst cd q v r) (nn 7) x8.fst (List.drop (E 7) x1.snd.fst) (x1.snd.snd+E 7) (W 7) (nn 8) (List.drop (E 8) x1.snd.fst) (x1.snd.snd+E 8)) [25,22,16,13,19,3,7,10,28] [1,4,22,25,31,34,37] (T 7 (by decide) _ _ _ _) tt fun x9 N9 t9=>
   endQ D_ 0x100d00010040000000004000000000001002807064190640701c0b04c1304c0004c0004c00058160580005800 (⟨N9+2,N1+12,8,(fun | 0=>x2.2 | 1=>x3.2 | 2=>x4.2 | 3=>x5.2 | 4=>x6.2 | 5=>x7.2 | 6=>x8.2 | _=>x9.2),x9.1,cd,v,q,r⟩:RdRes) [0,3] [8,16] [] fun s' O=>⟨_,trivial,rfl,rfl,O⟩
 kernel_rfl
end
theorem numHead_eq:PySem.W.ZFast.zw17538940487920948904=numHead:=PySem.W.ZFast.ze17538940487920948904.symm
theorem nmH_own (w:World) (F q0:Nat) (wd:LN) (t F0:Nat) (fo0:Obj) (hn:wd.length<=1000) (hc:∀c∈wd,c<128):OwnT w (sNmH w F q0 wd t wd.length F0 fo0) (numHead (.func (fnBody w 294) (fnEnv w 294 F []))):=by
 rw [←numHead_eq]
 cases wd with
 | nil=>
  revert w
  refine vRowT2 (fun w=>PySem.W.ZFast.zw17538940487920948904 (.func (fnBody w 294) (fnEnv w 294 F []))) [] roNil ?_ ?_
  ·exact fun cc w s N0 t0 G_ D_ I_=>
    .u 0x10000600000 (sStrIt [] t) [] [] (sStrIt_valid hc) tt fun x1 N1 t1=>
    dn D_ (cond cc 0x101d0681a06800068000681a06800068000681a000000000000000000000000001800000000000601806018140000800008020000000b0440701c0701c0001c0001c0000007 0x101d0681a06800068000681a06800068000681a000000000000000000000000001800000000000601806018140000800008020000000b0440701c0701c0001c0001c0001c0001c0001c0700007) ((.ok (.ret (.ref (N1+7))))) [(0,F,nmF3 w (fun | 0=>q0 | 1=>t1 | _=>t1+1) (.str (st []) t) (N1+4) (N1+5)),(3,F0,fo0)] [(23,N1+7,riO (Int.ofNat 0) (Int.ofNat 1) 1),(14,N1+4,iterO N1 0),(17,N1+5,seqO (.type "list") none [] 0)] [(2,N1,seqL (.type "list") none [] 0)] fun s' O=>⟨⟨N1,[],0,N1+4,N1+5,N1+7,_⟩,rfl,rfl,rfl,O.one (iR (.head _))⟩
  kernel_rfl
 | cons c r=>
  have rok:Builtin.Range.rangeSize (Int.ofNat 0) (Int.ofNat ((c::r).length+1)) 1=Int.ofNat ((c::r).length+1):=rsize_up _
  have rsm:Builtin.Range.small (Int.ofNat 0) (Int.ofNat ((c::r).length+1)) 1=true:=rsmall_up (by lia)
  revert w
  refine vRowT2 (fun w=>PySem.W.ZFast.zw17538940487920948904 (.func (fnBody w 294) (fnEnv w 294 F []))) [] roNil ?_ ?_
  ·exact fun cc w s N0 t0 G_ D_ I_=>
    .u 0x10000600000 (sStrIt (c::r) t) [] [] (sStrIt_valid hc) tt fun x1 N1 t1=>
    .up (cond cc 0x100007 0x101c0001c0001c0700007) (sOrd w F x1 N1 (N1+1) (c::r) t 0 [] 0 (dictO w [] 0) (c::r)) [1,2,5] [2,5] (sOrd1_valid hn _) tt fun x2 N2 t2 h2=>
    .u 0x4000180000000000060180601808000070000701c000000a0280a (sLenS (c::r) t ((c::r).length)) [] [1,2,5] (sLenS_valid rfl (by exact leT ‹_› rfl)) tt fun x3 N3 t3=>
    .u 0x10200002008020000200002008000000000000000 (sRangeIter N3 (Int.ofNat 0) (Int.ofNat (((c::r).length)+1)) 1 (t3+2) (t3+1) (t3+3) (Int.ofNat (((c::r).length)+1))) [2] [1,4,7] (sRangeIter_valid rok rsm) tt fun x4 N4 t4=>
    dn D_ 0x1010 ((.ok (.ret (.ref x4)))) [(0,F,nmF3 w (fun | 0=>q0 | 1=>t2 | _=>t2+1) (.str (st (c::r)) t) N2 (N2+1)),(3,F0,fo0)] [(10,x4,riO (Int.ofNat 0) (Int.ofNat (((c::r).length)+1)) 1),(4,N2,iterO N1 0),(7,N2+1,seqO (.type "list") none [] 0)] [(1,N1,seqO (.type "list") none ([]++ivs x2.1) x2.2.1)] fun s' O=>⟨⟨N1,x2.1,x2.2.1,N2,N2+1,x4,_⟩,h2,rfl,rfl,O.one (iR (.head _))⟩
  kernel_rfl
theorem out_base {w:World} {s s':Shared} {mods:LN} {lv ln li:Led} (B:BaseOk mask w s.heap) (O:Out s s' mods lv ln li) (hm:∀a∈mods,Nat.testBit mask a=false):BaseOk mask w s'.heap:=by
 refine ⟨fun a o h1 h2 h3=>O.keep a o (B.get a o h1 h2 h3) fun hmem=>?_,fun a h=>Nat.lt_of_lt_of_le (B.lt a h) O.size,B.lim.at fun o ho=>O.keep _ o ho fun hmem=>?_,B.stat⟩
 ·have:=hm a hmem;rw [h1] at this;cases this
 ·have:=hm _ hmem;rw [B.stat] at this;cases this
theorem fresh_mask {w:World} {h:Heap} (B:BaseOk mask w h) {a:Nat} (ha:h.objs.size<=a):Nat.testBit mask a=false:=by
 cases q:Nat.testBit mask a with
 | false=>rfl
 | true=>have:=B.lt a q;lia
structure NfR where
 fo:Obj
 tl:Nat
 vs:List (Nat×Nat)
 ep:Nat
 s0:Array (Option Value)
def sNmF (w:World) (F q0:Nat) (wd:LN) (t F0:Nat) (fo0:Obj) (E0:Env) (ns:LN):Summ where
 code:=.func (fnBody w 294) (fnEnv w 294 F [])
 need:=[(F,nmF1 w q0 (.str (st wd) t)),(F0,fo0)]
 Res:=NfR
 post:=fun x=>x.vs.map (·.1)=ns
 res:=fun x=>.ok (.ret (.ref x.tl))
 upd:=fun x=>[x.fo,slt fo0 x.s0]
 new:=fun x=>[(x.tl,seqO (.type "list") none (ivs x.vs) x.ep)]
 d:=60
 u:=120
 fr:=some [E0]
section
variable {w:World} {q:Nat->Nat} {wv:Value} {it tl q3:Nat} {tv:Value} {sl:Array (Option Value)}
theorem told_find:findB (slt (nmF4 w q wv it tl q3 tv) sl) "told"=some (.ref tl):=by kernel_rfl
theorem told_keys:strKeysB (slt (nmF4 w q wv it tl q3 tv) sl)=true:=by kernel_rfl
end
theorem sNmF_valid {w:World} {F q0:Nat} {wd:LN} {t F0:Nat} {fo0:Obj} {E0:Env} {nums:List LN} (k0:E0.scope.kind≠.module) (f0:E0.frame=some F0) {es0:Array DictEntry} {ep0:Nat} (d0:fo0.data=.dict es0 ep0)
  (hn:wd.length<=1000) (hw:wd=(nums.map vcode).flatten) (hnum:∀n∈nums,NumOk n) (hlen:nums.length<=wd.length) (h128:∀c∈wd,c<128):Vd w (sNmF w F q0 wd t F0 fo0 E0 (nums.map (horner 0))):=by
 intro A s room base need imm nodup msk gn
 refine y_code _ _ _ _ _ _ ?_
 intro Γ p hc hΓ
 obtain ⟨c0,c1,tg,iter,b,el,fp,p1,p2,p3,pE,oe,pos,rest,hb⟩:=shape_of w
 have hΓ':=hΓ.in
 rw [hc] at hΓ'
 change Γ.In (A.under (.func (fnBody w 294) (fnEnv w 294 F []))) at hΓ'
 have h:=nmH_own w F q0 wd t F0 fo0 hn h128 A s ⟨room.handled,by have:A.depth+60<recursionLimit:=room.depth;show A.depth+30<_;lia,by have:A.units+120<cLine:=room.units;show A.units+60<_;lia,(fun e q=>nomatch q),room.frames,fun _ q=>nomatch q⟩ base need imm nodup msk gn Γ p hc hΓ
 have hfr:(A.under (.func (fnBody w 294) (fnEnv w 294 F []))).frames=some [fnEnv w 294 F [],E0]:=by
  have:∀c,(A.under c).frames=pushEnvs c.envs A.frames:=fun _=>rfl
  rw [this,room.fr _ rfl,pushEnvs_eq];rfl
 have hdep:(A.under (.func (fnBody w 294) (fnEnv w 294 F []))).depth+50<recursionLimit:=by
  have h:A.depth+60<recursionLimit:=room.depth
  show A.depth+1+50<recursionLimit
  lia
 have huni:(A.under (.func (fnBody w 294) (fnEnv w 294 F []))).units+100<cLine:=by
  have h:A.units+120<cLine:=room.units
  show A.units+3+100<cLine
  lia
 have hhan:(A.under (.func (fnBody w 294) (fnEnv w 294 F []))).handled=none:=room.handled
 generalize A.under (.func (fnBody w 294) (fnEnv w 294 F []))=A' at hΓ' hfr hdep huni hhan
 show Sem.wp _ Γ (denote table (.func (fnBody w 294) (fnEnv w 294 F []))) _ _ p s
 rw [hb] at h ⊢
 refine numHead_wp hΓ' (QQ:=fun v s'=>Post (sNmF w F q0 wd t F0 fo0 E0 (nums.map (horner 0))) s (.ok (.ret v)) s') (fun e p s1 hp=>?_) h (fun v p s' hv=>hv) (fun it pp s1 h1=>?_)
 ·obtain ⟨z,_,hr,_⟩:=hp
  cases hr
 ·obtain ⟨z,hz,hr,_,O1⟩:=h1
  cases hr
  have hz:z.l.map (·.1)=wd:=hz
  let R:NmR:=⟨F,z.q,.str (st wd) t,z.it,z.L,z.tl,z.rit,z.l,z.ep,F0,E0⟩
  have hcode:nmC w R=.forLoop tg (.ref z.rit) b el (fnEnv w 294 F []):=by
   show loopC (atS (fnBody w 294) 2 [(0,0)]) (.ref z.rit) (fnEnv w 294 F [])=_
   rw [hb];rfl
  have hv:=sNmL1_valid R k0 f0 nums w fo0 es0 ep0 wd.length 0 d0 (by rw [←hw];exact hz) hnum hlen (by exact leX ‹_› ‹_› rfl)
  have gF:=O1.gv _ (.head _)
  have g0:=O1.gv _ (.tail _ (.head _))
  have nr:=O1.nw _ (.head _)
  have ni:=O1.nw _ (.tail _ (.head _))
  have nt:=O1.nw _ (.tail _ (.tail _ (.head _)))
  have gL:=O1.gi _ (.head _)
  have lF: @LT.lt Nat _ F s.heap.objs.size:=Heap.lt_size (need _ (.head _))
  have l0: @LT.lt Nat _ F0 s.heap.objs.size:=Heap.lt_size (need _ (.tail _ (.head _)))
  have nd0:[F,F0].Nodup:=nodup
  have nd1:[z.rit,z.it,z.tl].Nodup:=O1.nodup
  have r1:s.heap.objs.size<=z.rit:=nr.2
  have r2:s.heap.objs.size<=z.it:=ni.2
  have r3:s.heap.objs.size<=z.tl:=nt.2
  have r4:s.heap.objs.size<=z.L:=gL.2.1
  have r5:z.L∉[z.rit,z.it,z.tl]:=gL.2.2
  have B1:=out_base base O1 (fun a ha=>by
   obtain ⟨q,hq,rfl⟩:=List.mem_map.mp ha
   exact msk q hq)
  have mF:=msk _ (.head _)
  have m0:=msk _ (.tail _ (.head _))
  replace nd0:=nd2 nd0
  replace nd1:=nd3 nd1
  replace r5:=nn3 r5
  have ndL:[F,z.rit,z.it,z.tl,F0].Nodup:=nd5 ⟨⟨neq lF r1,neq lF r2,neq lF r3,nd0⟩,⟨nd1.1.1,nd1.1.2,neq' l0 r1⟩,⟨nd1.2,neq' l0 r2⟩,neq' l0 r3⟩
  have hloop:=hv A' s1 ⟨hhan,hdep,huni,(fun e q=>nomatch q),⟨_,hfr⟩,fun l q=>by cases q;exact hfr⟩ B1
   (fa gF (fa nr.1 (fa ni.1 (fa nt.1 (fa g0 fa0)))))
   (fun q hq=>by
    rcases iC hq with rfl | hq
    ·exact ⟨gL.1,show z.L∉[F,z.rit,z.it,z.tl,F0] from mn5 ⟨neq' lF r4,r5.1,r5.2.1,r5.2.2,neq' l0 r4⟩⟩
    ·cases hq)
   ndL
   (fa mF (fa (fresh_mask base r1) (fa (fresh_mask base r2) (fa (fresh_mask base r3) (fa m0 fa0)))))
   (fun _ h=>nomatch h)
  change codeAny (model pw w) A' (nmC w R) _ s1 at hloop
  rw [hcode] at hloop
  refine (wpAny_runOwn (h:=none) (codeAny_mono hloop fun r s2 hr=>?_):wpAny (model pw w) A' (runOwn (.forLoop tg (.ref z.rit) b el (fnEnv w 294 F [])) (fnEnv w 294 F [])) (fun _ _=>False) _ s1) Γ pp hΓ'
  obtain ⟨u,hu,hru,_,O2⟩:=hr
  subst hru
  have ge:=O2.nw _ (.head _)
  have gT:=O2.nw _ (.tail _ (.head _))
  have q1:=O2.gv _ (.head _)
  have q4:=O2.gv _ (.tail _ (.tail _ (.tail _ (.head _))))
  have q0:=O2.gv _ (.tail _ (.tail _ (.tail _ (.tail _ (.head _)))))
  have lT:s1.heap.objs.size<=u.T:=gT.2
  have ne:=tb_ne ge.1 gT.1
  have z1:=O1.size
  have lt1: @LT.lt Nat _ z.tl s1.heap.objs.size:=Heap.lt_size nt.1
  have B2:=out_base B1 O2 (fun a ha=>by
   rcases in5 ha with rfl | rfl | rfl | rfl | rfl
   ·exact mF
   ·exact fresh_mask base r1
   ·exact fresh_mask base r2
   ·exact fresh_mask base r3
   ·exact m0)
  have sB:∀{h h':Heap},BaseOk mask w h->sameT u.T h h'->BaseOk mask w h':=fun {h h'} B hs=>by
   have nT:∀a,Nat.testBit mask a=true->a≠u.T:=fun a ha q=>by
    have:=fresh_mask B1 lT
    rw [q,this] at ha;cases ha
   exact ⟨fun a o h1 h2 h3=>(hs.1 a (nT a h1)).trans (B.get a o h1 h2 h3),fun a h1=>by rw [hs.2];exact B.lt a h1,B.lim.at fun o ho=>(hs.1 _ (nT _ B.stat)).trans ho,B.stat⟩
  show cameBackBy (model pw w) A' (fnEnv w 294 F []) _ (.ref u.e) s2
  refine wp_caught (L:=F) rfl ge.1 gT.1 fun h3 hs3 ht3=>?_
  refine wp_handle rfl rfl (sB B2 hs3) ((hs3.1 _ ne).trans ge.1) ht3 (fun h4 hs4=>ns_of ((hs4.1 F (neq lF (Nat.le_trans z1 lT))).trans ((hs3.1 F (neq lF (Nat.le_trans z1 lT))).trans q1)) (told_keys)) (told_find) (fun h4 hs4=>?_)
  have same:∀b,b≠u.T->h4.get? b=s2.heap.get? b:=fun b hb=>(hs4.1 b hb).trans (hs3.1 b hb)
  refine ⟨.ref z.tl,rfl,⟨slt (nmF4 w z.q (.str (st wd) t) z.it z.tl u.q3 u.tv) u.s1,z.tl,u.vs,u.ep,u.s0⟩,hu,rfl,rfl,?_⟩
  refine ⟨fun b o hbo hbm=>?_,fun q hq=>?_,fun q hq=>?_,fun _ h=>(nomatch h),by simp [sNmF],?_,O2.os.trans O1.os,fun hB=>O2.bare (O1.bare hB)⟩
  ·have lb: @LT.lt Nat _ b s.heap.objs.size:=Heap.lt_size hbo
   replace hbm:=nn2 hbm
   have nb:∀{a:Nat},s.heap.objs.size<=a->¬b=a:=fun {a} ha q=>by rw [q] at lb;exact absurd lb (Nat.not_lt.mpr ha)
   refine (same b (nb (Nat.le_trans z1 lT))).trans (O2.keep b o (O1.keep b o hbo (mn2 hbm)) ?_)
   exact mn5 ⟨hbm.1,nb r1,nb r2,nb r3,hbm.2⟩
  ·rcases iC hq with rfl | hq
   ·exact (same F (neq lF (Nat.le_trans z1 lT))).trans q1
   rcases iC hq with rfl | hq
   ·exact (same F0 (neq l0 (Nat.le_trans z1 lT))).trans q0
   ·cases hq
  ·rcases iC hq with rfl | hq
   ·exact ⟨(same z.tl (neq lt1 lT)).trans q4,r3⟩
   ·cases hq
  ·show s.heap.objs.size<=h4.objs.size
   rw [hs4.2,hs3.2]
   exact Nat.le_trans O1.size O2.size
def sNm (w:World) (wd:LN) (t F0:Nat) (fo0:Obj) (E0:Env) (ns:LN):Summ where
 code:=.call (.ref 294) ⟨[.str (st wd) t],[]⟩
 need:=[(F0,fo0)]
 Res:=NfR
 post:=fun x=>x.vs.map (·.1)=ns
 res:=fun x=>.ok (.ret (.ref x.tl))
 upd:=fun x=>[slt fo0 x.s0]
 new:=fun x=>[(x.tl,seqO (.type "list") none (ivs x.vs) x.ep)]
 d:=70
 u:=140
 fr:=some [E0]
theorem sNm_valid (w:World) {wd:LN} {t F0:Nat} {fo0:Obj} {E0:Env} {nums:List LN} (k0:E0.scope.kind≠.module) (f0:E0.frame=some F0) {es0:Array DictEntry} {ep0:Nat} (d0:fo0.data=.dict es0 ep0)
  (hn:wd.length<=1000) (hw:wd=(nums.map vcode).flatten) (hnum:∀n∈nums,NumOk n) (hlen:nums.length<=wd.length) (h128:∀c∈wd,c<128):Vd w (sNm w wd t F0 fo0 E0 (nums.map (horner 0))):=
 by
 revert w
 refine vRow ?_ ?_
 ·exact fun w s N0 t0 G_ D_ I_=>
   .up 0x1000080200000002 (sNmF w N0 t0 wd t F0 fo0 E0 _) [2,0] [] (sNmF_valid k0 f0 d0 hn hw hnum hlen h128) tt fun x1 N1 t1 h1=>
   dn D_ 0x4 ((.ok (.ret (.ref x1.tl)))) [(0,F0,slt fo0 x1.s0)] [(1,x1.tl,seqO (.type "list") none (ivs x1.vs) x1.ep)] [] fun s' O=>⟨x1,h1,rfl,rfl,O.noGi⟩
 kernel_rfl
noncomputable def enumO (it:Nat) (i:Int) (a:Value):Obj:={cls:=.type "enumerate",data:=.fields #[a,.bool false,.ref it,.int i 0,.none,.none]}
def sEnumI (l:Nat) (xs:LV) (ep:Nat):Summ where
 code:=.builtin "enumerate.__new__" ⟨[.type "enumerate",.ref l],[]⟩
 imm:=[(l,seqL (.type "list") none xs ep)]
 Res:=Nat×Nat
 res:=fun x=>.ok (.ret (.ref x.1))
 new:=fun x=>[(x.1,enumO x.2 0 .none),(x.2,iterO l 0)]
 d:=5
 u:=10
theorem plain_en:plainId "enumerate.__new__"=true:=by decide +kernel
theorem sEnumI_valid {w:World} {l:Nat} {xs:LV} {ep:Nat}:Vd w (sEnumI l xs ep):=
 valid_m rfl plain_en PySem.F.entry_enumerate_new (PySem.meets_enumerate_newL l xs.toArray ep none #[]) fun A s room base need imm=>
  ⟨imm _ (.head _),((s.heap.push (iterO l 0)).objs.size,s.heap.objs.size),trivial,rfl,rfl,(out_nil (s:=s) (s':=s) rfl rfl rfl).push2 (o1:=iterO l 0) (o2:=enumO s.heap.objs.size 0 .none) rfl rfl⟩
noncomputable def enumV (a:Value) (it:Nat) (i:Int) (v:Value):Obj:={cls:=.type "enumerate",data:=.fields #[a,.bool false,.ref it,.int i 0,.none,v]}
structure CelR where
 F:Nat
 z:Nat
 it:Nat
 ys:Nat
 S:Nat
 c:Nat
 q:Nat->Nat
 V:LN
def clF2 (w:World) (R:CelR):Obj:=frameO w [("script",R.q 0,.ref R.S),("cells",R.q 1,.ref R.c)] 2
def clF4 (w:World) (R:CelR) (q2 q3:Nat) (kv xv:Value):Obj:=frameO w [("script",R.q 0,.ref R.S),("cells",R.q 1,.ref R.c),("k",q2,kv),("x",q3,xv)] 4
structure ClX where
 cs:List (Nat×Nat)
 ep:Nat
 q2:Nat
 q3:Nat
 kv:Value
 xv:Value
 i:Nat
 lv:Value
def stCl (w:World):Stmt:=atS (fnBody w 260) 1 []
def sCl (w:World) (R:CelR) (xs:LV) (i:Nat) (fo:Obj) (lv:Value) (vs:LV) (ep:Nat):Summ where
 code:=loopC (stCl w) (.ref R.z) (fnEnv w 260 R.F [])
 need:=[(R.F,fo),(R.z,enumV .none R.it (Int.ofNat i) lv),(R.it,iterO R.ys i),(R.c,lst vs ep)]
 imm:=[(R.ys,lst xs 0)]
 Res:=ClX
 post:=fun x=>x.cs.length=6/\(∀p∈x.cs,p.1<1000000000000)/\x.cs.map (·.1)=R.V
 res:=fun _=>.ok .next
 upd:=fun x=>[clF4 w R x.q2 x.q3 x.kv x.xv,enumV .none R.it (Int.ofNat x.i) x.lv,iterE x.i,lst (ivs x.cs) x.ep]
 d:=20
 u:=40
def clUpd (w:World) (R:CelR) (i:Nat) (fo:Obj) (a lv:Value) (vs:LV) (ep:Nat):List Obj:=[fo,enumV a R.it (Int.ofNat i) lv,iterO R.ys i,lst vs ep]
def sClT (w:World) (R:CelR) (xs:LV) (i:Nat) (fo:Obj) (lv:Value) (vs:LV) (ep:Nat) (x:Int) (t:Nat) (T u:Nat):Summ:=
 tailS (sCl w R xs i fo lv vs ep) (clUpd w R (i+1) fo .none (.int x t) vs ep) [(T,tup [iv i u,.int x t])]
def sCl0 (w:World) (R:CelR) (vs:LV) (ep:Nat):Summ where
 code:=loopC (stCl w) (.ref R.z) (fnEnv w 260 R.F [])
 need:=[(R.F,clF2 w R),(R.z,enumV .none R.it 0 .none),(R.it,iterO R.ys 0),(R.c,lst vs ep)]
 imm:=[(R.ys,lst [] 0)]
 Res:=Unit
 res:=fun _=>.ok .next
 upd:=fun x=>[clF2 w R,enumV .none R.it 0 .none,iterE 0,lst vs ep]
 d:=20
 u:=40
noncomputable def svs (l:List (Int×Nat)):LV:=l.map fun p=>.int p.1 p.2
theorem isTupCl {w:World}:isTupFor (stCl w)=true:=by kernel_rfl
theorem sCl_turn (w:World) (R:CelR) (xs:LV) (i:Nat) {fo:Obj} (lv:Value) (vs:LV) (ep:Nat) (x:Int) (t:Nat) (h1:xs[i]? =some (.int x t))
  (H:∀T u,OwnT w (sClT w R xs i fo lv vs ep x t T u) (tailZ (stCl w) (.ref R.z) (.ref T) (fnEnv w 260 R.F []))):
  Vd w (sCl w R xs i fo lv vs ep):=by
 refine valid_turnX (w:=w) (S:=sCl w R xs i fo lv vs ep) (st:=stCl w) (z:=R.z) (env:=fnEnv w 260 R.F [])
  (Res1:=Nat×Nat) (post1:=fun _=>True) (a:=fun y=>y.1) (upd1:=fun y=>clUpd w R (i+1) fo (.int (Int.ofNat y.1) 0) (.int x t) vs ep) (new1:=fun y=>[(y.1,tup [iv i y.2,.int x t])])
  (fun _=>clUpd w R (i+1) fo .none (.int x t) vs ep) (fun y=>enumV (.int (Int.ofNat y.1) 0) R.it (Int.ofNat (i+1)) (.int x t)) (fun _=>enumV .none R.it (Int.ofNat (i+1)) (.int x t))
  (isTupCl) rfl rfl (fun _=>rfl) (fun y s A Q E es k tp h hQ=>go_enum y.1 s A Q E es k tp h hQ) (fun x=>?_) 1 rfl (fun _=>rfl) ?_ ?_ (fun y _=>H y.1 y.2)
 ·simp [sCl,clUpd,rezip]
 ·simp [sCl]
 ·clear H
  revert w
  refine vRowT (fun w=>headZ (stCl w) (.ref R.z)) [] roNil ?_ ?_
  ·exact fun w s N0 t0 G_ D_ I_=>
    psItNI 0x103000030090000900009 R.it R.ys i (Value.type "list") none xs 0 (Value.int x t) h1 [6] [] (inJ I_) fun x1 N1 t1=>
    endQ D_ 0x402409024090240902409024090240902409 (N1,t1) [0,3,6,9] [2] [] fun s' O=>⟨(N1,t1),trivial,rfl,rfl,O.noGi⟩
  kernel_rfl
noncomputable def celNew (cs:List (Nat×Nat)) (i:Nat) (x:Int) (t:Nat):List (Nat×Nat):=cs.set (i%6) ((cs.getD (i%6) (0,0)).1+(x.fmod 1000000).toNat,t)
noncomputable def celAdd:List Int->Nat->LN->LN
 | [],_,vs=>vs
 | x::r,i,vs=>celAdd r (i+1) (vs.set (i%6) (vs.getD (i%6) 0+(x.fmod 1000000).toNat))
theorem fit6 (i:Nat):Builtin.List.listFitsIndex (Int.ofNat (i%6))=true:=fits_nat _ (leT (Nat.le_of_lt (Nat.mod_lt i (Nat.succ_pos 5))) rfl)
theorem cel_lt {a b c C y:Nat} (h:a+(b+c)<C) (k:y<=c):a+y+b<C:=by
 rw [Nat.add_assoc,Nat.add_comm y b];exact Nat.lt_of_le_of_lt (Nat.add_le_add_left (Nat.add_le_add_left k b) a) h
theorem celNew_val {cs:List (Nat×Nat)} {i:Nat} (hk:i%6<cs.length) (x:Int) (t:Nat):(celNew cs i x t).map (·.1)=(cs.map (·.1)).set (i%6) ((cs.map (·.1)).getD (i%6) 0+(x.fmod 1000000).toNat):=by
 unfold celNew
 rw [List.map_set]
 simp only [List.getD_eq_getElem?_getD,List.getElem?_map,List.getElem?_eq_getElem hk,Option.map_some,Option.getD_some]
theorem sCl_valid (R:CelR) (l:List (Int×Nat)):∀(r:List (Int×Nat)) (w:World) (i:Nat) (q2 q3:Nat) (kv xv lv:Value) (cs:List (Nat×Nat)) (ep:Nat),l.drop i=r->cs.length=6->(∀p∈cs,p.1+1000000*r.length<1000000000000)->celAdd (r.map (·.1)) i (cs.map (·.1))=R.V->
  Vd w (sCl w R (svs l) i (clF4 w R q2 q3 kv xv) lv (ivs cs) ep):=by
 intro r
 induction r with
 | nil=>
  intro w i q2 q3 kv xv lv cs ep hr hc hb hV
  have hi:(svs l).length<=i:=by
   have:l.length<=i:=List.drop_eq_nil_iff.mp hr
   simpa [svs] using this
  revert w
  refine vRow ?_ ?_
  ·exact fun w s N0 t0 G_ D_ I_=>
    .ui 0x40c0000c024000240002400 (sItEI R.it R.ys i (Value.type "list") none (svs l) 0) [6] [] (sItEI_valid hi) (inJ I_) tt fun x1 N1 t1=>
    endQ D_ 0x400007 (⟨cs,ep,q2,q3,kv,xv,i,lv⟩:ClX) [0,3,6,9] [] [] fun s' O=>⟨(⟨cs,ep,q2,q3,kv,xv,i,lv⟩:ClX),⟨hc,(fun p hp=>by have:=hb p hp;simp at this;exact this),hV⟩,rfl,rfl,O.noGi⟩
  kernel_rfl
 | cons p r ih=>
  intro w i q2 q3 kv xv lv cs ep hr hc hb hV
  obtain ⟨x,t⟩:=p
  obtain ⟨hg,hdr⟩:=drop_get hr
  have hx:(svs l)[i]? =some (.int x t):=by simp [svs,hg]
  have hm0:0<=x.fmod 1000000:=Int.fmod_nonneg_of_pos _ (by decide)
  have hm1:x.fmod 1000000<1000000:=Int.fmod_lt_of_pos _ (by decide)
  have hm:x.fmod (Int.ofNat 1000000)=Int.ofNat (x.fmod 1000000).toNat:=by
   show x.fmod 1000000=_
   rw [Int.ofNat_eq_natCast,Int.toNat_of_nonneg hm0]
  have hk:i%6<cs.length:=by rw [hc];exact Nat.mod_lt _ (by decide)
  have hcd:cs.getD (i%6) (0,0)=cs[i%6]:=by rw [List.getD_eq_getElem?_getD,List.getElem?_eq_getElem hk];rfl
  have hmem:cs[i%6]∈cs:=List.getElem_mem hk
  have hb0:=hb _ hmem
  have hset:∀t',(ivs cs).set (i%6) (iv ((cs.getD (i%6) (0,0)).1+(x.fmod 1000000).toNat) t')=ivs (celNew cs i x t'):=fun t'=>by
   unfold ivs celNew
   rw [List.map_set]
  refine sCl_turn w R (svs l) i lv (ivs cs) ep x t hx fun T u=>?_
  revert w
  refine vRowT (fun w=>tailZ (stCl w) (.ref R.z) (.ref T) (fnEnv w 260 R.F [])) [] roNil ?_ ?_
  ·refine fun w s N0 t0 G_ D_ I_=>
    piMod 0x10000601806018060180e0200804808020000200002008020120200800008000080200804808020000200002008000120001204812 i u 6 (t0+2) (i%6) (by decide) rfl [] fun x1 N1 t1=>
    psGetInt 0x103c0003c0f (Value.type "list") none R.c (ivs cs) ep (Int.ofNat (i%6)) x1 (iv ((cs.getD (i%6) (0,0)).1) ((cs.getD (i%6) (0,0)).2)) (i%6) ?_ ?_ (fit6 _) [9] [] fun x2 N2 t2=>
    .u 0x100006 (sT "int.__mod__" [Value.int x t,Value.int (Int.ofNat 1000000) (t2+0)] (iv ((x.fmod 1000000).toNat))) [] [] (iModI_valid (by decide) hm) tt fun x3 N3 t3=>
    piAdd 0x400 ((cs.getD (i%6) (0,0)).1) ((cs.getD (i%6) (0,0)).2) ((x.fmod 1000000).toNat) x3 ((cs.getD (i%6) (0,0)).1+(x.fmod 1000000).toNat) rfl [] fun x4 N4 t4=>
    .u 0x103c0003c0f (sSetInt R.c (ivs cs) ep (Int.ofNat (i%6)) x1 (i%6) (iv ((cs.getD (i%6) (0,0)).1+(x.fmod 1000000).toNat) x4)) [9] [] (sSetInt_valid rfl (fit6 _) (by simpa [ivs] using hk) (by rw [ivs_len,hc];decide)) tt fun x5 N5 t5=>
    .uq 0x1 (sCl w R (svs l) (i+1) (clF4 w R q2 q3 (iv i u) (Value.int x t)) (Value.int x t) ((ivs cs).set (i%6) (iv ((cs.getD (i%6) (0,0)).1+(x.fmod 1000000).toNat) x4)) x5) [0,3,6,9] [] (?_) (inJ I_) tt fun x6 N6 t6 h6=>
    endQ D_ 0x4 x6 [0,3,6,9] [] [] fun s' O=>⟨x6,h6,rfl,rfl,O.noGi⟩
   ·exact seq_ix (by rw [ivs_len];exact hk)
   ·rw [hcd];simp [ivs,hk]
   ·rw [hset x4]
    refine ih _ _ _ _ _ _ _ _ _ hdr (by unfold celNew;rw [List.length_set];exact hc) (fun p hp=>?_) ((congrArg (celAdd (r.map (·.1)) (i+1)) (celNew_val hk x x4)).trans hV)
    unfold celNew at hp
    have hlen:1000000*(r.length+1)=1000000*r.length+1000000:=Nat.mul_succ _ _
    simp only [List.length_cons,hlen] at hb hb0
    rcases List.mem_or_eq_of_mem_set hp with hp | rfl
    ·exact Nat.lt_of_le_of_lt (Nat.add_le_add_left (Nat.le_add_right _ _) _) (hb p hp)
    ·rw [hcd]
     show cs[i%6].1+(x.fmod 1000000).toNat+1000000*r.length<1000000000000
     exact cel_lt hb0 (Int.toNat_le.mpr (Int.le_of_lt hm1))
  kernel_rfl
theorem sCl1_valid {R:CelR} {l:List (Int×Nat)} (x:Int) (t:Nat) (r:List (Int×Nat)) (w:World) (i:Nat) {lv:Value} {cs:List (Nat×Nat)} {ep:Nat} (hr:l.drop i=(x,t)::r) (hc:cs.length=6) (hb:∀p∈cs,p.1+1000000*((x,t)::r).length<1000000000000) (hV:celAdd (x::r.map (·.1)) i (cs.map (·.1))=R.V):
  Vd w (sCl w R (svs l) i (clF2 w R) lv (ivs cs) ep):=by
 obtain ⟨hg,hdr⟩:=drop_get hr
 have hx:(svs l)[i]? =some (.int x t):=by simp [svs,hg]
 have hm0:0<=x.fmod 1000000:=Int.fmod_nonneg_of_pos _ (by decide)
 have hm1:x.fmod 1000000<1000000:=Int.fmod_lt_of_pos _ (by decide)
 have hm:x.fmod (Int.ofNat 1000000)=Int.ofNat (x.fmod 1000000).toNat:=by
  show x.fmod 1000000=_
  rw [Int.ofNat_eq_natCast,Int.toNat_of_nonneg hm0]
 have hk:i%6<cs.length:=by rw [hc];exact Nat.mod_lt _ (by decide)
 have hcd:cs.getD (i%6) (0,0)=cs[i%6]:=by rw [List.getD_eq_getElem?_getD,List.getElem?_eq_getElem hk];rfl
 have hmem:cs[i%6]∈cs:=List.getElem_mem hk
 have hb0:=hb _ hmem
 have hset:∀t',(ivs cs).set (i%6) (iv ((cs.getD (i%6) (0,0)).1+(x.fmod 1000000).toNat) t')=ivs (celNew cs i x t'):=fun t'=>by
  unfold ivs celNew
  rw [List.map_set]
 refine sCl_turn w R (svs l) i lv (ivs cs) ep x t hx fun T u=>?_
 revert w
 refine vRowT (fun w=>tailZ (stCl w) (.ref R.z) (.ref T) (fnEnv w 260 R.F [])) [] roNil ?_ ?_
 ·refine fun w s N0 t0 G_ D_ I_=>
   piMod 0x10000601806018060180e0200804808020000200002008020120200800008000080200804808020000200002008000120001204812 i u 6 (t0+2) (i%6) (by decide) rfl [] fun x1 N1 t1=>
   psGetInt 0x103c0003c0f (Value.type "list") none R.c (ivs cs) ep (Int.ofNat (i%6)) x1 (iv ((cs.getD (i%6) (0,0)).1) ((cs.getD (i%6) (0,0)).2)) (i%6) ?_ ?_ (fit6 _) [9] [] fun x2 N2 t2=>
   .u 0x100006 (sT "int.__mod__" [Value.int x t,Value.int (Int.ofNat 1000000) (t2+0)] (iv ((x.fmod 1000000).toNat))) [] [] (iModI_valid (by decide) hm) tt fun x3 N3 t3=>
   piAdd 0x400 ((cs.getD (i%6) (0,0)).1) ((cs.getD (i%6) (0,0)).2) ((x.fmod 1000000).toNat) x3 ((cs.getD (i%6) (0,0)).1+(x.fmod 1000000).toNat) rfl [] fun x4 N4 t4=>
   .u 0x103c0003c0f (sSetInt R.c (ivs cs) ep (Int.ofNat (i%6)) x1 (i%6) (iv ((cs.getD (i%6) (0,0)).1+(x.fmod 1000000).toNat) x4)) [9] [] (sSetInt_valid rfl (fit6 _) (by simpa [ivs] using hk) (by rw [ivs_len,hc];decide)) tt fun x5 N5 t5=>
   .uq 0x1 (sCl w R (svs l) (i+1) (clF4 w R t0 (t0+1) (iv i u) (Value.int x t)) (Value.int x t) ((ivs cs).set (i%6) (iv ((cs.getD (i%6) (0,0)).1+(x.fmod 1000000).toNat) x4)) x5) [0,3,6,9] [] (?_) (inJ I_) tt fun x6 N6 t6 h6=>
   endQ D_ 0x4 x6 [0,3,6,9] [] [] fun s' O=>⟨x6,h6,rfl,rfl,O.noGi⟩
  ·exact seq_ix (by rw [ivs_len];exact hk)
  ·rw [hcd];simp [ivs,hk]
  ·rw [hset x4]
   refine sCl_valid R l r _ _ _ _ _ _ _ _ _ hdr (by unfold celNew;rw [List.length_set];exact hc) (fun p hp=>?_) ((congrArg (celAdd (r.map (·.1)) (i+1)) (celNew_val hk x x4)).trans hV)
   unfold celNew at hp
   have hlen:1000000*(r.length+1)=1000000*r.length+1000000:=Nat.mul_succ _ _
   simp only [List.length_cons,hlen] at hb hb0
   rcases List.mem_or_eq_of_mem_set hp with hp | rfl
   ·exact Nat.lt_of_le_of_lt (Nat.add_le_add_left (Nat.le_add_right _ _) _) (hb p hp)
   ·rw [hcd]
    show cs[i%6].1+(x.fmod 1000000).toNat+1000000*r.length<1000000000000
    exact cel_lt hb0 (Int.toNat_le.mpr (Int.le_of_lt hm1))
 kernel_rfl
theorem sCl0_valid (w:World) {R:CelR} {vs:LV} {ep:Nat}:Vd w (sCl0 w R vs ep):=
 by
 revert w
 refine vRow ?_ ?_
 ·exact fun w s N0 t0 G_ D_ I_=>
   .ui 0x40c0000c024000240002400 (sItEI R.it R.ys 0 (Value.type "list") none [] 0) [6] [] (sItEI_valid (Nat.le_refl _)) (inJ I_) tt fun x1 N1 t1=>
   endQ D_ 0x400007 () [0,3,6,9] [] [] fun s' O=>⟨(),trivial,rfl,rfl,O.noGi⟩
 kernel_rfl
def sCells (S:Nat) (xs:LV) (eps:Nat) (V:LN):Summ where
 code:=.call (.ref 260) ⟨[.ref S],[]⟩
 imm:=[(S,lst xs eps)]
 Res:=Nat×List (Nat×Nat)×Nat
 post:=fun x=>x.2.1.length=6/\(∀p∈x.2.1,p.1<1000000000000)/\x.2.1.map (·.1)=V
 res:=fun x=>.ok (.ret (.ref x.1))
 new:=fun x=>[(x.1,lst (ivs x.2.1) x.2.2)]
 d:=30
 u:=60
def cellsOf:List (Int×Nat)->LN
 | []=>[73,3,52,536,12,184]
 | p::r=>celAdd (p.1::(r.take (min 60 (svs (p::r)).length-1)).map (·.1)) 0 [73,3,52,536,12,184]
theorem sCells_valid (w:World) {S:Nat} {l:List (Int×Nat)} {eps:Nat} (hl:l.length<=1000):Vd w (sCells S (svs l) eps (cellsOf l)):=by
 have hlen:(svs l).length=l.length:=by simp [svs]
 have hb:=bounds_hi (svs l).length 60
 cases h:l with
 | nil=>
  revert w
  refine vRowR [(S,lst (svs []) eps)] (fun w=>(fun p hp=>hp)) ?_ ?_
  ·refine fun w s N0 t0 G_ D_ I_=>
    .ui 0x6000020080200020000000802000000080200000002 (sGetHead S (svs []) eps (N0+2) 60 (t0+8) []) [8] [2,5] (sGetHead_valid S (svs []) eps 0 rfl (Nat.zero_le _) (Nat.zero_le _)) (inJ I_) tt fun x1 N1 t1=>
    .use 0x40000000 (sEnumI x1 [] 0) [] [1,4] [(7,x1,lst [] 0)] (sEnumI_valid) (fun p hp=>.inr (iR hp)) fun x2 N2 t2 _=>
    .ui 0x103400034000340d03400034000340d (sCl0 w (CelR.mk N0 x2.fst x2.snd x1 S (N0+1) (fun x=>match x with | 0=>t0 | x=>t0+7) (cellsOf [])) (ivs [(73,t0+1),(3,t0+2),(52,t0+3),(536,t0+4),(12,t0+5),(184,t0+6)]) 0) [1,7,10,4] [1,4] (sCl0_valid _) (fun p hp=>.inr ?_) tt fun x3 N3 t3=>
    endQ D_ 0x1007 (N0+1,[(73,t0+1),(3,t0+2),(52,t0+3),(536,t0+4),(12,t0+5),(184,t0+6)],0) [] [4] [] fun s' O=>⟨(N0+1,[(73,t0+1),(3,t0+2),(52,t0+3),(536,t0+4),(12,t0+5),(184,t0+6)],0),⟨rfl,?_,rfl⟩,rfl,rfl,O.sub fun q hq=>nomatch hq⟩
   ·exact iL (iR hp)
   ·intro p hp
    simp at hp
    rcases hp with rfl | rfl | rfl | rfl | rfl | rfl <;>simp
  kernel_rfl
 | cons p r=>
  obtain ⟨x,t⟩:=p
  rw [h] at hb hlen hl
  have hmin:min 60 (svs ((x,t)::r)).length<=(svs ((x,t)::r)).length:=Nat.min_le_right _ _
  have hys:(svs ((x,t)::r)).take (min 60 (svs ((x,t)::r)).length)=svs ((x,t)::r.take (min 60 (svs ((x,t)::r)).length-1)):=by
   have:min 60 (svs ((x,t)::r)).length=(min 60 (svs ((x,t)::r)).length-1)+1:=by rw [hlen];simp;lia
   conv=>lhs;rw [this]
   unfold svs
   rw [←List.map_take,List.take_succ_cons]
  revert w
  refine vRowR [(S,lst (svs ((x,t)::r)) eps)] (fun w=>(fun p hp=>hp)) ?_ ?_
  ·refine fun w s N0 t0 G_ D_ I_=>
    .ui 0x6000020080200020000000802000000080200000002 (sGetHead S (svs ((x,t)::r)) eps (N0+2) 60 (t0+8) ((svs ((x,t)::r)).take (min 60 (svs ((x,t)::r)).length))) [8] [2,5] (sGetHead_valid S _ eps _ hb hmin (by rw [hlen];exact leT ‹_› rfl)) (inJ I_) tt fun x1 N1 t1=>
    .use 0x40000000 (sEnumI x1 ((svs ((x,t)::r)).take (min 60 (svs ((x,t)::r)).length)) 0) [] [1,4] [(7,x1,lst ((svs ((x,t)::r)).take (min 60 (svs ((x,t)::r)).length)) 0)] (sEnumI_valid) (fun p hp=>.inr (iR hp)) fun x2 N2 t2 _=>
    .uq 0x103400034000340d03400034000340d (sCl w (CelR.mk N0 x2.fst x2.snd x1 S (N0+1) (fun x=>match x with | 0=>t0 | x=>t0+7) (cellsOf ((x,t)::r))) ((svs ((x,t)::r)).take (min 60 (svs ((x,t)::r)).length)) 0 (clF2 w (CelR.mk N0 x2.fst x2.snd x1 S (N0+1) (fun x=>match x with | 0=>t0 | x=>t0+7) (cellsOf ((x,t)::r)))) Value.none (ivs [(73,t0+1),(3,t0+2),(52,t0+3),(536,t0+4),(12,t0+5),(184,t0+6)]) 0) [1,7,10,4] [1,4] (?_) (fun p hp=>.inr ?_) tt fun x3 N3 t3 h3=>
    endQ D_ 0x1007 (N0+1,x3.cs,x3.ep) [] [4] [] fun s' O=>⟨(N0+1,x3.cs,x3.ep),h3,rfl,rfl,O.sub fun q hq=>nomatch hq⟩
   ·rw [hys]
    refine sCl1_valid x t (r.take (min 60 (svs ((x,t)::r)).length-1)) _ 0 rfl rfl (fun p hp=>?_) rfl
    have h1:((x,t)::r.take (min 60 (svs ((x,t)::r)).length-1)).length<=61:=by simp;lia
    have h2:p.1<=600:=by
     simp at hp
     rcases hp with rfl | rfl | rfl | rfl | rfl | rfl <;>simp
    lia
   ·exact iL (iR hp)
  kernel_rfl
structure DrR where
 F:Nat
 it:Nat
 acc:Nat
 d:Nat
 cx:Nat
 ce:Nat
 co:Nat
 eL:Nat
 oL:Nat
 cl:Nat
 tb:Nat
noncomputable def cellV (v:Option Value):Obj:={cls:=.type "cell",data:=.cell v}
def endVs (t:Nat):LV:=[iv 32 (t+1),iv 9 (t+2),iv 32 (t+3),iv 9 (t+4),iv 34 (t+5),iv 10 (t+6),iv 13 (t+7),iv 28 (t+8)]
def othVs (t:Nat):LV:=[iv 32 (t+9),iv 9 (t+10),iv 34 (t+11),iv 28 (t+12),iv 10 (t+13),iv 13 (t+14),iv 0 (t+15),iv 63 (t+16)]
def drE (w:World) (R:DrR):Env:=fnEnv w 265 R.F [("others",R.co),("ends",R.ce)]
def drX (w:World):Expr:=rhs (atS (fnBody w 265) 2 [])
def compCC (e:Expr) (it acc:Nat) (env:Env) (d:Nat) (cells:List (Str×Nat)):Code:=.compLoop e 0 (.ref it) (.ref acc) (compEnv (scopeOf e) env d cells)
structure DrX where
 ns:List Num
 ep:Nat
 i:Nat
 cv:Option Value
def drImm (R:DrR) (vs:LV) (epc:Nat):Led:=[(R.cl,lst vs epc),(R.ce,cellO R.eL),(R.co,cellO R.oL),(R.eL,lst (endVs R.tb) 0),(R.oL,lst (othVs R.tb) 0)]
def sDr (w:World) (R:DrR) (vs:LV) (epc i:Nat) (cv:Option Value) (xs:LV) (ep:Nat) (post:DrX->Prop):Summ where
 code:=compCC (drX w) R.it R.acc (drE w R) R.d [("x",R.cx),("others",R.co),("ends",R.ce)]
 need:=[(R.it,iterO R.cl i),(R.acc,lst xs ep),(R.cx,cellV cv),(R.d,dictO w [] 0)]
 imm:=drImm R vs epc
 Res:=DrX
 post:=post
 res:=fun _=>.ok .next
 upd:=fun x=>[iterE x.i,lst (xs++numVs x.ns) x.ep,cellV x.cv,dictO w [] 0]
 giveImm:=fun x=>numLed x.ns
 giv:=true
 d:=30
 u:=60
theorem sZ1_valid (w:World) (R:FmtR) (Z:SplR) (fv sv cv:Value) (epP:Nat) (vs:LV) (hsg:R.sg=32\/R.sg=9) (c:PcT) (its:List PcT) (ep tn:Nat) (el:Nat) (tb1 tb2:ON) (a b:Value)
  (hv:vs=pcVs (c::its)) (hits:∀d∈c::its,PcOk R.sg d.pc) (hn:its.length+1<=40000) (hl:pLen ((c::its).map PcT.pc)<=40000):
  Vd w (sZ w R Z (spF5 w R Z fv sv cv) [] [] ep tn [] el tb1 tb2 vs epP 0 a b (PostZ R.sg R.wd [] [] ((c::its).map PcT.pc))):=by
 obtain ⟨⟨f,tf⟩,⟨p,tp⟩⟩:=c
 obtain ⟨v1,v2,v3⟩:=vs_items (vs:=vs) (i:=0) (f:=f) (tf:=tf) (p:=p) (tp:=tp) (its:=its) (by rw [hv];rfl)
 have hc:PcOk R.sg (f,p):=hits _ (.head _)
 have hl:f.length+p.length+pLen (its.map PcT.pc)<=40000:=by
  have:pLen ((((f,tf),(p,tp))::its).map PcT.pc)=f.length+p.length+pLen (its.map PcT.pc):=by simp [pLen,PcT.pc]
  rw [this] at hl;exact hl
 have hfeed:feed R.sg R.wd [] (f,p)=([(f,p)],[]):=by
  unfold feed;split <;>rfl
 refine sZ_turn w R Z [] [] ep tn [] el tb1 tb2 vs epP 0 a b f tf p tp v1 v2 fun T=>?_
 revert w
 refine vRowT (fun w=>tailZ (stZ w) (.ref Z.z) (.ref T) (fnEnv w 113 Z.F [])) [] roNil ?_ ?_
 ·refine fun w s N0 t0 G_ D_ I_=>
   .use 0x10001b06c090180000000000060000000006000000000606c1b06c1b06c0e020080b4080200002000020080202d020080000800008020080b4080200002000020080002d0002d0b42d (sAppNX w R [] [] f tf p tp ep tn [] el tb1 tb2) [0,3,6,9,12,15,18] [] [] (sAppNX_valid R [] f tf p tp rfl hsg (fun _ h=>nomatch h) hc (by simp) (by simp [accLen]) (by lia) (.inr rfl)) (inJ I_) fun x3 N3 t3 _=>
   .use 0x1 (sZ w R Z (spF6 w R Z (Value.str (st f) tf) sv cv (t0+1) (Value.str (st p) tp)) ([]++[ck x3.fst f tf p tp]) ([]++[Value.ref x3.fst]) x3.snd.fst tn [] el (some x3.snd.snd) tb2 vs epP (0+1+1) (Value.str (st f) tf) (Value.str (st p) tp) ((zPN R [] [] f tf p tp (its.map PcT.pc)) x3.fst)) [0,3,6,9,12,15,18,21,24,27,30,33,36] [] [] (?_) (inW D_ (?_)) fun x4 N4 t4 h4=>
   endQ D_ 0x4 (⟨x4.C,ck x3.1 f tf p tp::x4.nws,x4.xs,x4.ep,x4.tn,x4.ls,x4.el,x4.tb1,x4.tb2,x4.fo,x4.ie,x4.to⟩:ZRes) [0,3,6,9,12,15,18,21,24,27,30,33,36] [] [] fun s' O=>?_
  ·exact sZ_valid R Z sv cv _ epP vs hsg its _ [ck x3.1 f tf p tp] _ _ _ _ [] _ _ _ _ _ _ v3 (fa hc fa0) (fun d hd=>hits d (.tail _ hd)) (by simp;lia) (by show accLen [ck x3.1 f tf p tp]+_<=_;simp only [accLen,ck,List.map_cons,List.map_nil,List.sum_cons,List.sum_nil];exact leT ‹_› rfl) (by simp;lia)
  ·intro q hq
   rcases iC hq with rfl | hq
   ·exact .inr (.head _)
   ·cases hq
  ·refine ⟨(⟨x4.C,ck x3.1 f tf p tp::x4.nws,x4.xs,x4.ep,x4.tn,x4.ls,x4.el,x4.tb1,x4.tb2,x4.fo,x4.ie,x4.to⟩:ZRes),?_,rfl,rfl,O.sub fun q hq=>?_⟩
   ·refine PostZ.step (C:=[]) (C':=[ck x3.1 f tf p tp]) (c:=ck x3.1 f tf p tp) h4 ?_ ⟨[],rfl,?_⟩ (fun d hd=>.inr (by simpa using hd)) rfl rfl rfl rfl
    ·exact (congrArg Prod.fst hfeed).symm
    ·exact (congrArg Prod.snd hfeed).symm
   ·have hq:q∈(ck x3.1 f tf p tp).led::accLed x4.nws:=hq
    rcases iC hq with rfl | hq
    ·exact iL (iL (iL (iR (.head _))))
    ·exact iL (iR hq)
 kernel_rfl
def sAscii (w:World) (R:FmtR) (T:LN) (t1 t2 t3:Nat) (ep tn el:Nat) (tb1 tb2:ON) (post:ZRes->Prop):Summ where
 code:=.call (.ref 113) ⟨[.ref R.fx,.str (st []) t1,.str (st T) t2,.str (st [R.sg]) t3],[]⟩
 need:=fmtLed w R [] ep tn [] el tb1 tb2
 Res:=ZRes
 post:=post
 res:=fun x=>.ok (.ret .none)
 upd:=fun x=>(fmtLed w R x.xs x.ep x.tn x.ls x.el x.tb1 x.tb2).map (·.2)
 giveImm:=fun x=>accLed x.nws
 giv:=true
 d:=150
 u:=300
noncomputable def pairUp:List (LN×Nat)->List PcT
 | a::b::r=>(a,b)::pairUp r
 | _=>[]
theorem pairUp_of:∀(gs:List Seg) (r:List (LN×Nat)),r.map (·.1)=segParts gs->lineVs r=pcVs (pairUp r)/\(pairUp r).map PcT.pc=gs
 | [],[],_=>⟨rfl,rfl⟩
 | [],_::_,h=>by simp [segParts] at h
 | g::gs,[],h=>by simp [segParts] at h
 | g::gs,[a],h=>by simp [segParts] at h
 | g::gs,a::b::r,h=>by
  simp only [segParts,List.map_cons,List.cons.injEq] at h
  obtain ⟨h1,h2,h3⟩:=h
  obtain ⟨e1,e2⟩:=pairUp_of gs r h3
  refine ⟨?_,?_⟩
  ·show .str (st a.1) a.2::.str (st b.1) b.2::lineVs r=.str (st a.1) a.2::.str (st b.1) b.2::pcVs (pairUp r)
   rw [e1]
  ·show (a.1,b.1)::(pairUp r).map PcT.pc=g::gs
   rw [e2,h1,h2]
noncomputable def firstTok:List (LN×Nat)->Nat
 | (_,t)::_=>t
 | []=>0
theorem pLen_seg (gs:List Seg):pLen gs=(segTx gs).length:=by
 induction gs with
 | nil=>rfl
 | cons g gs ih=>
  have:pLen (g::gs)=g.1.length+g.2.length+pLen gs:=by simp [pLen]
  rw [this,ih];simp only [segTx,List.length_append]
theorem seg_le {g:Seg} {gs:List Seg} (h:g∈gs):g.1.length+g.2.length<=(segTx gs).length:=by
 induction gs with
 | nil=>cases h
 | cons x gs ih=>
  simp only [segTx,List.length_append]
  rcases iC h with rfl | h
  ·exact Nat.le_add_right _ _
  ·exact Nat.le_trans (ih h) (Nat.le_add_left _ _)
theorem blank_ne {sg:Nat} (hsg:sg=32\/sg=9) {c:Nat} (h:blank c=false):c≠sg:=by
 rintro rfl
 rcases hsg with rfl | rfl <;>simp [blank] at h
theorem sAscii_valid (w:World) (R:FmtR) (T:LN) {t1 t2 t3:Nat} {ep tn el:Nat} {tb1 tb2:ON} (c:Nat) (p:LN) (gs:List Seg) (hsg:R.sg=32\/R.sg=9) (hT:T=(c::p)++segTx gs) (hl:T.length<=30000) (hp:∀d∈c::p,blank d=false) (hg:∀g∈gs,g.ok):
  Vd w (sAscii w R T t1 t2 t3 ep tn el tb1 tb2 (PostZ R.sg R.wd [] [] (([],c::p)::gs))):=by
 have hTl:T.length=p.length+1+(segTx gs).length:=by rw [hT,List.length_append,List.length_cons]
 have hgl:=seg_len gs hg
 have hpc:∀q:LN,q≠[]->(∀d∈q,blank d=false)->∃lc,q.getLast?=some lc/\lc≠R.sg:=fun q h1 h2=>by
  cases hq:q.getLast? with
  | none=>rw [List.getLast?_eq_none_iff] at hq;exact absurd hq h1
  | some lc=>exact ⟨lc,rfl,blank_ne hsg (h2 lc (List.mem_of_getLast? hq))⟩
 have F:∀(w:World) (x2:Nat×List (LN×Nat)),x2.2.map (·.1)=(c::p)::segParts gs->(lineVs x2.2).length=1+2*gs.length/\(lineVs x2.2)[0]? =some (.str (st (c::p)) (firstTok x2.2))/\∀N0 t0 N5 N6 t2' t4 x5:Nat,Vd w (sZ w R (SplR.mk N0 N5 (N6+2) N6 (N6+1) x2.fst fun x=>match x with | 0=>t0 | 1=>t0+1 | 2=>t0+2 | 3=>t0+3 | x=>t2') (spF5 w R (SplR.mk N0 N5 (N6+2) N6 (N6+1) x2.fst fun x=>match x with | 0=>t0 | 1=>t0+1 | 2=>t0+2 | 3=>t0+3 | x=>t2') (Value.str (st []) t1) (Value.str (st T) t2) (Value.str (st [R.sg]) t3)) [] [] ep tn [] el tb1 tb2 (Value.str (st []) t4::lineVs x2.snd) x5 0 Value.none Value.none (PostZ R.sg R.wd [] [] (([],c::p)::gs))):=fun w x2 h2=>by
  obtain ⟨tc,r,hx,hr⟩:∃tc r,x2.2=(c::p,tc)::r/\r.map (·.1)=segParts gs:=by
   cases h:x2.2 with
   | nil=>rw [h] at h2;cases h2
   | cons q r=>
    rw [h,List.map_cons,List.cons.injEq] at h2
    obtain ⟨q1,q2⟩:=q
    exact ⟨q2,r,by rw [←h2.1],h2.2⟩
  obtain ⟨e1,e2⟩:=pairUp_of gs r hr
  have hvl:(lineVs x2.2).length=1+2*gs.length:=by
   have h3:=congrArg List.length h2
   simp only [List.length_map,List.length_cons,segParts_len] at h3
   simp only [lineVs,List.length_map,h3];lia
  refine ⟨hvl,by rw [hx];rfl,fun N0 t0 N5 N6 t2' t4 x5=>?_⟩
  have hv:(Value.str (st []) t4::lineVs x2.2)=pcVs (((([]:LN),t4),(c::p,tc))::pairUp r):=by
   rw [hx]
   show .str (st []) t4::.str (st (c::p)) tc::lineVs r=.str (st []) t4::.str (st (c::p)) tc::pcVs (pairUp r)
   rw [e1]
  have hm:((((([]:LN),t4),(c::p,tc))::pairUp r).map PcT.pc)=([],c::p)::gs:=by
   rw [List.map_cons,e2];rfl
  have hrl:(pairUp r).length=gs.length:=by rw [←e2,List.length_map]
  have z:=sZ1_valid w R (SplR.mk N0 N5 (N6+2) N6 (N6+1) x2.1 (fun | 0=>t0 | 1=>t0+1 | 2=>t0+2 | 3=>t0+3 | _=>t2')) (.str (st []) t1) (.str (st T) t2) (.str (st [R.sg]) t3) x5 (Value.str (st []) t4::lineVs x2.2) hsg ((([]:LN),t4),(c::p,tc)) (pairUp r) ep tn el tb1 tb2 .none .none hv (fun d hd=>by
   have hd':d.pc∈([],c::p)::gs:=by rw [←hm];exact List.mem_map_of_mem hd
   rcases iC hd' with h | h
   ·rw [h];exact ⟨by simp,by simp;lia,hpc _ (by simp) hp⟩
   ·obtain ⟨h0,h1,h3,h4⟩:=hg _ h
    have hle:=seg_le h
    exact ⟨by lia,by lia,hpc _ h4 h3⟩) (by lia) (by
   rw [hm]
   have:pLen (([],c::p)::gs)=p.length+1+pLen gs:=by simp [pLen]
   rw [this,pLen_seg];lia)
  rw [hm] at z
  exact z
 revert w
 refine vRow ?_ ?_
 ·exact fun w s N0 t0 G_ D_ I_=>
   .u 0x40002008000000000000000000080200802008020080200000002 (sAdd [] t1 T t2) [] [2] (sAdd_valid (by simp;exact leT ‹_› rfl)) tt fun x1 N1 t1'=>
   .up 0x100000 (sSplit T x1 ((c::p)::(segParts gs))) [] [1] (sSplit_valid T (c::p) gs hT (by exact leT ‹_› rfl) hp hg) tt fun x2 N2 t2' h2=>
   psGetInt 0x1028000280a0280701c07 (Value.type "list") none x2.fst (lineVs x2.snd) 0 0 (t2'+1) (Value.str (st (c::p)) (firstTok x2.snd)) 0 (by rw [(F w x2 h2).1];exact seq_ix (Nat.add_pos_left Nat.one_pos _)) (F w x2 h2).2.1 (by decide) [4] [1,4] fun x3 N3 t3'=>
   .u 0x1 (sLenS (c::p) (firstTok x2.snd) (p.length+1)) [] [1,4] (sLenS_valid rfl (by simp;lia)) tt fun x4 N4 t4=>
   .u 0x40a0000a02807 (sSetHead (Value.type "list") none x2.fst (lineVs x2.snd) 0 (N4+1) N4 (t4+1) [Value.str (st []) (t4+0)] 0) [4,5,2] [1,4] (sSetHead_valid (by rw [(F w x2 h2).1];simp;lia)) tt fun x5 N5 t5=>
   .u 0x10000e02c0002c0002c0b0000002c080000a0000a02800000070000000000 (sIadd (N5+3) [] 0 (N5+2) [Value.ref N5,Value.ref N5] 0) [11,8] [1,4,2,11] (sIadd_valid (by simp)) tt fun x6 N6 t6=>
   .use 0x40e0000e0000e0380e0000e0000e0380d0000d0000d0340d0000d0000d034000000000010 (sZ w R (SplR.mk N0 N5 (N6+2) N6 (N6+1) x2.fst fun x=>match x with | 0=>t0 | 1=>t0+1 | 2=>t0+2 | 3=>t0+3 | x=>t2') (spF5 w R (SplR.mk N0 N5 (N6+2) N6 (N6+1) x2.fst fun x=>match x with | 0=>t0 | 1=>t0+1 | 2=>t0+2 | 3=>t0+3 | x=>t2') (Value.str (st []) t1) (Value.str (st T) t2) (Value.str (st [R.sg]) t3)) [] [] ep tn [] el tb1 tb2 (Value.str (st []) t4::lineVs x2.snd) x5 0 Value.none Value.none (PostZ R.sg R.wd [] [] (([],c::p)::gs))) [0,3,6,9,12,15,18,1,7,4,8,2,5] [] [] ((F w x2 h2).2.2 _ _ _ _ _ _ _) (noImm rfl) fun x7 N7 t7 h7=>
   endQ D_ 0x4 x7 [0,3,6,9,12,15,18] [] [] fun s' O=>⟨x7,h7,rfl,rfl,O.sub fun q hq=>iL (iR (show q∈accLed x7.nws from hq))⟩
 kernel_rfl
end Mine
open Builtin Builtin.Str Builtin.Int
namespace Mine
def sJoinL (L:Nat) (sep:LN) (t:Nat) (l:List (LN×Nat)) (vs:LV) (el:Nat) (tx:LN):Summ where
 code:=.builtin "str.join" ⟨[.str (st sep) t,.ref L],[]⟩
 need:=[(L,lst vs el)]
 Res:=Nat
 res:=fun x=>.ok (.ret (.str (st tx) x))
 upd:=fun _=>[lst vs el]
 d:=10
 u:=20
theorem sJoinL_valid {w:World} {L:Nat} {sep:LN} {t:Nat} {l:List (LN×Nat)} {vs:LV} {el:Nat} {tx:LN} (hv:vs=lineVs l) (htx:tx=glue sep (l.map (·.1))) (hl:((l.map (·.1)).map List.length).sum+l.length*sep.length<=200000):Vd w (sJoinL L sep t l vs el tx):=
 fun A s room base need imm nodup msk gn=>by
  have ev:lineVs l=strValues (l.map fun p=>(st p.1,p.2)):=by unfold lineVs strValues;rw [List.map_map];rfl
  rw [ev] at hv
  subst hv htx
  have ho:s.heap.get? L=some ⟨.type "list",none,.seq (strValues (l.map fun p=>(st p.1,p.2))).toArray el,#[]⟩:=need _ (.head _)
  have hl0:(l.map (·.1)).length=l.length:=by simp
  have em:(l.map fun p=>(st p.1,p.2)).map (·.1)=(l.map (·.1)).map st:=by rw [List.map_map,List.map_map];rfl
  have hok:JoinOk (st sep) ((l.map fun p=>(st p.1,p.2)).map (·.1))=true:=by
   rw [em];exact joinOk_st _ _ (by rw [hl0];exact hl)
  have htx:Txt.join (st sep) ((l.map fun p=>(st p.1,p.2)).map (·.1))=st (glue sep (l.map (·.1))):=by rw [em,join_st]
  show codeAny (model pw w) A (.builtin "str.join" ⟨[.str (st sep) t,.ref L],[]⟩) _ s
  refine codeB PySem.F.slot_str_join.plain PySem.F.entry_str_join ?_
  show wpAny _ A.in1 (Builtin.«str.join» ⟨[.str (st sep) t,.ref L],[]⟩) _ _ s
  rw [join_tree_other]
  refine wpAny_bind (wpAny_typeOf (T:="list") ⟨_,ho,rfl⟩ ?_)
  rw [if_pos (by decide)]
  refine wpAny_bind (wpAny_seqItems ho rfl ?_)
  have hok':=hok
  unfold JoinOk at hok
  rw [Bool.not_eq_true'] at hok
  have g:Gives (joinTail (st sep) (strValues (l.map fun p=>(st p.1,p.2)))) (joinMade (st sep) (l.map fun p=>(st p.1,p.2))):=by
   have g0:=gives_joinTail (st sep) (l.map fun p=>(st p.1,p.2)) hok
   cases l with
   | nil=>exact g0
   | cons p r=>cases r with
    | nil=>exact g0
    | cons q r'=>exact g0
  refine wpAny_mono (g pw w A (Post (sJoinL L sep t l (strValues (l.map fun p=>(st p.1,p.2))) el (glue sep (l.map (·.1)))) s) s (post_join _ ⟨joinFit_length (by simpa using hok),fun t' k=>⟨t',trivial,by rw [htx];rfl,rfl,by exact out_same (s:=s) (s':={s with toks:=k}) (need:=(sJoinL L sep t l (strValues (l.map fun p=>(st p.1,p.2))) el (glue sep (l.map (·.1)))).need) rfl rfl rfl need⟩⟩)) (fun fin s'' h=>h) fun e s'' h=>h
def sNewlineX (w:World) (R:FmtR) (xs:LV) (C:LC) (c:Chunk) (tx:LN) (ep tn:Nat) (ls:LV) (el:Nat) (tb1 tb2:ON):Summ where
 code:=.call (.ref 85) ⟨[.ref R.fx],[]⟩
 need:=fmtLed w R xs ep tn ls el tb1 tb2
 imm:=c.led::accLed C
 Res:=Nat×Nat×Nat×Nat×Nat×Nat
 res:=fun x=>.ok (.ret .none)
 upd:=fun x=>(fmtLed w R [] x.1 x.2.1 (ls++[.str (st tx) x.2.2.1]) x.2.2.2.1 (some x.2.2.2.2.1) (some x.2.2.2.2.2)).map (·.2)
 d:=80
 u:=160
noncomputable def lastC (C:LC):Chunk:=C.getLastD ⟨0,[],0,[],0⟩
def sPage (T:LN) (ta:Nat) (wd:Int) (tw:Nat) (sg ts:Nat) (tb1 tb2:ON) (page:LN):Summ where
 code:=.call (.ref 284) ⟨[.str (st T) ta,.int wd tw,.str (st [sg]) ts],[]⟩
 need:=[(169,tab 110 19 tb1),(176,tab 113 32 tb2)]
 Res:=Nat×Nat×Nat
 res:=fun x=>.ok (.ret (.str (st page) x.1))
 upd:=fun x=>[tab 110 19 (some x.2.1),tab 113 32 (some x.2.2)]
 giveImm:=fun x=>[]
 d:=180
 u:=360
noncomputable def pgR (N0 t0:Nat) (wd:Int) (tw sg ts x1 k8:Nat):FmtR:=⟨N0+2,N0+1,N0+4,N0+6,N0+5,(fun | 0=>t0+11 | 1=>t0+13 | 2=>t0+4 | 3=>t0+17 | 4=>t0+15 | 5=>t0+19 | 6=>ts | 7=>t0+21 | 8=>k8 | 9=>tw | _=>x1),wd,sg⟩
noncomputable def unStr:Value->LN×Nat
 | .str s t=>(s.cps.toList,t)
 | _=>([],0)
def lfOf (y:ZRes):List (LN×Nat):=y.ls.map unStr
theorem unStr_line (nl:List (LN×Nat)):(lineVs nl).map unStr=nl:=by
 unfold lineVs
 rw [List.map_map]
 conv=>rhs;rw [←List.map_id nl]
 apply List.map_congr_left
 intro p _
 rfl
def pageOf (sg:Nat) (wd:Int) (L:List Pc):LN:=glue [10] ((feeds sg wd [] L).2++[pTx (feeds sg wd [] L).1])
theorem brkP_le (sg:Nat) (L:List Pc):∀k i,brkP sg L k=some i->i<=k:=by
 intro k
 induction k with
 | zero=>intro i h;cases h
 | succ k ih=>
  intro i h
  unfold brkP at h
  split at h
  ·cases h;exact Nat.le_refl _
  ·have:=ih i h;exact .step ‹_›
theorem sum5 {a x y b c L C:Nat} (h:a+y<=b+C) (k:b+x<=L+c):a+(x+y)<=L+(c+C):=by lia
theorem feed_last (sg:Nat) (wd:Int) (L:List Pc) (c:Pc):(feed sg wd L c).1.getLast?=some c:=by
 have hd:∀i,i<=L.length->((L++[c]).drop i).getLast?=some c:=fun i hi=>by
  rw [List.drop_append_of_le_length hi];simp
 have hb:=brkP_le sg (L++[c])
 unfold feed
 split
 ·split
  ·rename_i i h
   exact hd i (hb _ _ h)
  ·simp
 ·simp
theorem feeds_last (sg:Nat) (wd:Int):∀(cs:List Pc) (L:List Pc),cs≠[]->(feeds sg wd L cs).1.getLast?=cs.getLast?
 | [],_,h=>absurd rfl h
 | [c],L,_=>by
  show (feed sg wd L c).1.getLast?=_
  rw [feed_last];rfl
 | c::d::cs,L,_=>by
  show (feeds sg wd (feed sg wd L c).1 (d::cs)).1.getLast?=_
  rw [feeds_last sg wd (d::cs) _ (by simp)]
  rw [List.getLast?_cons_cons]
theorem feeds_bound (sg:Nat) (wd:Int):∀(cs:List Pc) (L:List Pc),pLen (feeds sg wd L cs).1+(((feeds sg wd L cs).2).map List.length).sum<=pLen L+pLen cs/\(feeds sg wd L cs).2.length<=cs.length/\(feeds sg wd L cs).1.length<=L.length+cs.length
 | [],L=>by simp [feeds,pLen]
 | c::cs,L=>by
  have h1:=feed_len sg wd L c
  have h2:=feeds_bound sg wd cs (feed sg wd L c).1
  have e:pLen (c::cs)=c.1.length+c.2.length+pLen cs:=by simp [pLen]
  have h3:pLen (feed sg wd L c).1+(((feed sg wd L c).2).map List.length).sum<=pLen L+(c.1.length+c.2.length):=by
   have hT:∀M:List Pc,(pTx M).length=pLen M:=fun M=>by
    induction M with
    | nil=>rfl
    | cons x M ih=>simp only [pTx,pLen,List.flatMap_cons,List.length_append,List.map_cons,List.sum_cons] at ih ⊢;rw [ih]
   have hb:=brkP_le sg (L++[c])
   have ea:pLen (L++[c])=pLen L+(c.1.length+c.2.length):=by simp [pLen]
   unfold feed
   split
   ·split
    ·rename_i i h
     have hi:=hb _ _ h
     show pLen ((L++[c]).drop i)+((pTx (L.take i)).length+0)<=_
     rw [hT]
     have:pLen (L++[c])=pLen ((L++[c]).take i)+pLen ((L++[c]).drop i):=by
      conv=>lhs;rw [←List.take_append_drop i (L++[c])]
      simp only [pLen,List.map_append,List.sum_append]
     rw [List.take_append_of_le_length hi] at this
     rw [←ea,this];exact Nat.le_of_eq (Nat.add_comm _ _)
    ·exact Nat.le_of_eq ea
   ·exact Nat.le_of_eq ea
  refine ⟨?_,?_,?_⟩
  ·show pLen (feeds sg wd (feed sg wd L c).1 cs).1+(((feed sg wd L c).2++(feeds sg wd (feed sg wd L c).1 cs).2).map List.length).sum<=_
   rw [List.map_append,List.sum_append,e]
   exact sum5 h2.1 h3
  ·show ((feed sg wd L c).2++(feeds sg wd (feed sg wd L c).1 cs).2).length<=_
   rw [List.length_append,List.length_cons]
   exact Nat.le_trans (Nat.add_le_add h1.2.2.2 h2.2.1) (Nat.le_of_eq (Nat.add_comm _ _))
  ·show (feeds sg wd (feed sg wd L c).1 cs).1.length<=_
   rw [List.length_cons];exact Nat.le_trans h2.2.2 (Nat.le_trans (Nat.add_le_add_right h1.2.1 _) (Nat.le_of_eq (by rw [Nat.add_assoc,Nat.add_comm 1])))
theorem dropLast_lastC {C:LC} (h:C≠[]):C=C.dropLast++[lastC C]:=by
 unfold lastC
 rw [List.getLastD_eq_getLast?,List.getLast?_eq_some_getLast h]
 exact (List.dropLast_concat_getLast h).symm
theorem sNewlineX_valid {w:World} (R:FmtR) {xs:LV} {C:LC} {c:Chunk} {tx:LN} {ep tn:Nat} {ls:LV} {el:Nat} {tb1 tb2:ON} (hx:xs=accXs C++[.ref c.at_]) (hC:accLen C<=50000) (hl:C.length<=50000) (hc:c.f.length+c.p.length<=50000) (hp:c.p≠[]) (hls:ls.length<=50000)
  (ht:tx=accTx C++(c.f++c.p)) (hs:((st tx).length>0&&(st tx).cps.all Unicode.isSpace)=false):Vd w (sNewlineX w R xs C c tx ep tn ls el tb1 tb2):=by
 subst hx;exact sNewline_valid w R C c tx ep tn ls el tb1 tb2 hC hl hc hp hls ht hs
theorem not_space {tx:LN} {e:Nat} (h:tx.getLast?=some e) (he:Unicode.isSpace e=false):((st tx).length>0&&(st tx).cps.all Unicode.isSpace)=false:=by
 rw [Bool.and_eq_false_iff]
 right
 have hm:e∈tx:=List.mem_of_getLast? h
 rw [Bool.eq_false_iff]
 intro hh
 have:(st tx).cps.all Unicode.isSpace=tx.all Unicode.isSpace:=by simp [st]
 rw [this,List.all_eq_true] at hh
 have:=hh e hm
 rw [he] at this;cases this
theorem sPage_valid (w:World) (T:LN) (ta:Nat) (wd:Int) (tw sg ts:Nat) (tb1 tb2:ON) (c:Nat) (p:LN) (gs:List Seg) (hsg:sg=32\/sg=9) (hT:T=(c::p)++segTx gs) (hl:T.length<=20000) (hp:∀d∈c::p,blank d=false) (hg:∀g∈gs,g.ok)
  {e:Nat} (he:T.getLast?=some e) (hes:Unicode.isSpace e=false):Vd w (sPage T ta wd tw sg ts tb1 tb2 (pageOf sg wd (([],c::p)::gs))):=by
 have hpl:pLen (([],c::p)::gs)=T.length:=by
  have:pLen (([],c::p)::gs)=p.length+1+pLen gs:=by simp [pLen]
  rw [this,pLen_seg,hT,List.length_append,List.length_cons]
 have hgl:=seg_len gs hg
 have hTl:T.length=p.length+1+(segTx gs).length:=by rw [hT,List.length_append,List.length_cons]
 have hb:=feeds_bound sg wd (([],c::p)::gs) []
 have hlast:=feeds_last sg wd (([],c::p)::gs) [] (by simp)
 rw [hpl] at hb
 -- the last piece
 obtain ⟨d,hd,hd2,hdT⟩:∃d:Pc,(([],c::p)::gs).getLast?=some d/\d.2≠[]/\d.2.getLast?=T.getLast?:=by
  have:∀(gs:List Seg) (q:Pc),q.2≠[]->(∀g∈gs,g.ok)->∃d:Pc,(q::gs).getLast?=some d/\d.2≠[]/\d.2.getLast?=(q.2++segTx gs).getLast?:=by
   intro gs
   induction gs with
   | nil=>intro q hq _;exact ⟨q,rfl,hq,by simp [segTx]⟩
   | cons g gs ih=>
    intro q hq hg
    obtain ⟨d,h1,h2,h3⟩:=ih g (hg g (.head _)).2.2.2 (fun g' hg'=>hg g' (.tail _ hg'))
    refine ⟨d,by rw [List.getLast?_cons_cons];exact h1,h2,?_⟩
    rw [h3]
    have hne:g.2++segTx gs≠[]:=by
     intro h
     exact (hg g (.head _)).2.2.2 (List.append_eq_nil_iff.mp h).1
    simp only [segTx,List.append_assoc]
    rw [←List.append_assoc q.2 g.1,List.getLast?_append (l:=q.2++g.1)]
    cases hh:(g.2++segTx gs).getLast? with
    | none=>rw [List.getLast?_eq_none_iff] at hh;exact absurd hh hne
    | some x=>rfl
  obtain ⟨d,h1,h2,h3⟩:=this gs ([],c::p) (by simp) hg
  exact ⟨d,h1,h2,by rw [h3,hT]⟩
 rw [hd] at hlast
 have F:∀(w:World) (x2:ZRes),PostZ sg wd [] [] (([],c::p)::gs) x2->(∀N0 t0 x1 t1:Nat,Vd w (sNewlineX w (pgR N0 t0 wd tw sg ts x1 (t1+1)) x2.xs x2.C.dropLast (lastC x2.C) (pTx (feeds sg wd [] (([],c::p)::gs)).1) x2.ep x2.tn x2.ls x2.el x2.tb1 x2.tb2))/\(∀q∈(lastC x2.C).led::accLed x2.C.dropLast,q∈accLed x2.nws)/\∀x3 L t e:Nat,Vd w (sJoinL L [10] t (lfOf x2++[((pTx (feeds sg wd [] (([],c::p)::gs)).1),x3)]) (x2.ls++[.str (st (pTx (feeds sg wd [] (([],c::p)::gs)).1)) x3]) e (pageOf sg wd (([],c::p)::gs))):=fun w x2 h2=>by
  obtain ⟨nl,hls,hnl⟩:=h2.lines
  rw [List.nil_append] at hls
  have hpcs:=h2.pcs
  rw [List.map_nil] at hpcs hnl
  have hCne:x2.C≠[]:=by
   intro h
   rw [h] at hpcs
   rw [←hpcs] at hlast;cases hlast
  have hCe:=dropLast_lastC hCne
  have hlc:(lastC x2.C).pc=d:=by
   rw [←hpcs,List.getLast?_map] at hlast
   unfold lastC
   rw [List.getLastD_eq_getLast?]
   cases hh:x2.C.getLast? with
   | none=>rw [hh] at hlast;cases hlast
   | some q=>rw [hh] at hlast;simpa using hlast
  have hlp:(lastC x2.C).p=d.2:=congrArg Prod.snd hlc
  have hacc:accLen x2.C<=20000:=by rw [accLen_pc,hpcs];have:=hb.1;simp [pLen] at this ⊢;lia
  have hacc2:accLen x2.C=accLen x2.C.dropLast+((lastC x2.C).f.length+(lastC x2.C).p.length):=by
   have z:=accLen_app x2.C.dropLast (lastC x2.C)
   rwa [←hCe] at z
  have hClen:x2.C.length<=30000:=by
   have h1:x2.C.length=(feeds sg wd [] (([],c::p)::gs)).1.length:=by rw [←hpcs,List.length_map]
   have:=hb.2.2
   simp only [List.length_nil,List.length_cons] at this
   lia
  have hnll:nl.length<=30000:=by
   have h1:nl.length=(feeds sg wd [] (([],c::p)::gs)).2.length:=by rw [←hnl,List.length_map]
   have:=hb.2.1
   simp only [List.length_cons] at this
   lia
  have htx:pTx (feeds sg wd [] (([],c::p)::gs)).1=accTx x2.C:=by rw [accTx_pc,hpcs]
  have htx2:accTx x2.C=accTx x2.C.dropLast++((lastC x2.C).f++(lastC x2.C).p):=by
   have z:=accTx_app x2.C.dropLast (lastC x2.C)
   rwa [←hCe] at z
  have hlastc:(pTx (feeds sg wd [] (([],c::p)::gs)).1).getLast?=some e:=by
   rw [htx,htx2,hlp,←List.append_assoc,List.getLast?_append,hdT,he];rfl
  have hxs:x2.xs=accXs x2.C.dropLast++[.ref (lastC x2.C).at_]:=by
   have z:=accXs_app x2.C.dropLast (lastC x2.C)
   rw [←hCe] at z
   rw [h2.xs];exact z
  refine ⟨fun N0 t0 x1 t1=>sNewlineX_valid (pgR N0 t0 wd tw sg ts x1 (t1+1)) hxs (leX (Nat.le_add_right _ _) (Nat.le_trans (Nat.le_of_eq hacc2.symm) hacc) rfl) (by simp;exact leT ‹_› rfl) (leX (Nat.le_add_left _ _) (Nat.le_trans (Nat.le_of_eq hacc2.symm) hacc) rfl) (by rw [hlp];exact hd2) (by rw [hls];simp [lineVs];exact leT ‹_› rfl) (htx.trans htx2) (not_space hlastc hes),fun q hq=>?_,fun x3 L t e=>sJoinL_valid ?_ ?_ ?_⟩
  ·skip
   have hq':q∈accLed x2.C:=by
    rw [hCe]
    unfold accLed
    rw [List.map_append]
    rcases iC hq with rfl | hq
    ·exact iR (.head _)
    ·exact iL hq
   obtain ⟨k,hk,rfl⟩:=List.mem_map.mp hq'
   rcases h2.nws k hk with h | h
   ·cases h
   ·exact List.mem_map_of_mem h
  ·rw [hls]
   unfold lfOf
   rw [hls,unStr_line]
   simp [lineVs]
  ·unfold lfOf pageOf
   rw [hls,unStr_line,List.map_append,hnl]
   rfl
  ·unfold lfOf
   rw [hls,unStr_line]
   have h1:(nl.map (·.1))=(feeds sg wd [] (([],c::p)::gs)).2:=hnl
   have h3:(pTx (feeds sg wd [] (([],c::p)::gs)).1).length=accLen x2.C:=by rw [htx,accTx_len]
   rw [List.map_append,List.map_append,List.sum_append,h1]
   have:=hb.1
   simp only [List.map_cons,List.map_nil,List.sum_cons,List.sum_nil,List.length_append,List.length_cons,List.length_nil,h3]
   simp only [pLen,List.map_nil,List.sum_nil] at this
   lia
 revert w
 refine vRow ?_ ?_
 ·exact fun w s N0 t0 G_ D_ I_=>
   .u 0x4000741d0741d0000000002000000000006800068000000000c00000000000000000000000000000000000000000000000000110000b02c0b0000e000000000e0000e0000003800000000000e0440b02c0b0000e000000000e0000e0000003800000000000e0441102c0b02c00038000000003800038000000e0000000000038110000000000044000000b02c0b0000e000000000e0000e0000003800000000000e0441102c0b02c00038000000003800038000000e0000000000038110440000011044110441104411044110440000002000000000003800038000000000000000000000000000000000000000000000000000000000000000000000000000000000002008000000000802008020080200000002 (sInitF w (N0+7) (N0+5) (t0+22) (t0+23) (t0+3) 0 0 (N0+6)) [23,20,17] [2,5,8,11,14,17,20] (sInitF_valid _ _) tt fun x1 N1 t1=>
   .use 0x40001c070280d0000000000034000000003400000000340701c070280a02800034000000003400034000000d000000000003410 (sAscii w (pgR N0 t0 wd tw sg ts x1 (t1+1)) T (t1+3) ta ts 0 (t0+3) 0 tb1 tb2 (PostZ sg wd [] [] (([],c::p)::gs))) [7,4,19,16,13,0,3] [1,4,7,13,16,19] [] (sAscii_valid _ (pgR N0 t0 wd tw sg ts x1 (t1+1)) T c p gs hsg hT (by exact leT ‹_› rfl) hp hg) (noImm rfl) fun x2 N2 t2 h2=>
   .ui 0x4000280d0000000000034000000003400000000340800000020080200800000008000280d00000000000340000000034000000003407 (sNewlineX w (pgR N0 t0 wd tw sg ts x1 (t1+1)) x2.xs x2.C.dropLast (lastC x2.C) (pTx (feeds sg wd [] (([],c::p)::gs)).1) x2.ep x2.tn x2.ls x2.el x2.tb1 x2.tb2) [7,4,16,13,10,0,3] [4,7,10,2] ((F _ x2 h2).1 _ _ _ _) (fun q hq=>.inr (iL (iR ((F w x2 h2).2.1 q hq)))) tt fun x3 N3 t3=>
   .u 0x1000070000a028000000002800000000000a04010 (sJoinL (N0+4) [10] t2 (lfOf x2++[((pTx (feeds sg wd [] (([],c::p)::gs)).1),x3.snd.snd.fst)]) (x2.ls++[Value.str (st (pTx (feeds sg wd [] (([],c::p)::gs)).1)) x3.snd.snd.fst]) x3.snd.snd.snd.fst (pageOf sg wd (([],c::p)::gs))) [7] [] ((F _ x2 h2).2.2 _ _ _ _) tt fun x4 N4 t4=>
   endQ D_ 0x4 (x4,x3.2.2.2.2.1,x3.2.2.2.2.2) [0,3] [] [] fun s' O=>⟨(x4,x3.2.2.2.2.1,x3.2.2.2.2.2),trivial,rfl,rfl,O.noGi⟩
 kernel_rfl
def isBrk (sg:Nat) (c:Pc):Prop:=c.1.head?=some sg
theorem brkP_none (sg:Nat) (L:List Pc):∀k,(∀j,1<=j->j<=k->∀c,L[j]? =some c->¬isBrk sg c)->brkP sg L k=none
 | 0,_=>rfl
 | k+1,h=>by
  unfold brkP
  rw [if_neg,brkP_none sg L k fun j h1 h2=>h j h1 (by exact .step ‹_›)]
  intro e
  cases hc:L[k+1]? with
  | none=>rw [hc] at e;cases e
  | some c=>
   rw [hc] at e
   exact h (k+1) (Nat.succ_pos k) (Nat.le_refl _) c hc (by simpa [isBrk] using e)
theorem brkP_at (sg:Nat) (L:List Pc) (i:Nat) (c:Pc) (hi:1<=i) (hc:L[i]? =some c) (hb:isBrk sg c):∀k,i<=k->(∀j,i<j->j<=k->∀c,L[j]? =some c->¬isBrk sg c)->brkP sg L k=some i
 | 0,h,_=>absurd (Nat.le_trans hi h) (Nat.not_succ_le_zero 0)
 | k+1,h,hn=>by
  unfold brkP
  by_cases e:i=k+1
  ·subst e
   rw [if_pos (by rw [hc];simpa [isBrk] using hb)]
  ·rw [if_neg,brkP_at sg L i c hi hc hb k (Nat.le_of_lt_succ (Nat.lt_of_le_of_ne h e)) fun j h1 h2=>hn j h1 (by exact .step ‹_›)]
   intro e'
   cases hc':L[k+1]? with
   | none=>rw [hc'] at e';cases e'
   | some c'=>
    rw [hc'] at e'
    exact hn (k+1) (Nat.lt_of_le_of_ne h e) (Nat.le_refl _) c' hc' (by simpa [isBrk] using e')
theorem feed_nil (sg:Nat) (wd:Int) (c:Pc):feed sg wd [] c=([c],[]):=by
 unfold feed
 split
 ·rfl
 ·rfl
theorem feed_solo (sg:Nat) (wd:Int) (c0 d:Pc) (ds:List Pc) (h:∀x∈ds++[d],¬isBrk sg x):feed sg wd (c0::ds) d=(c0::(ds++[d]),[]):=by
 unfold feed
 rw [brkP_none]
 ·split <;>rfl
 ·intro j h1 h2 c hc
  obtain ⟨j,rfl⟩:∃i,j=i+1:=⟨j-1,(Nat.sub_add_cancel h1).symm⟩
  have hc:(ds++[d])[j]? =some c:=by simpa using hc
  exact h c (List.mem_of_getElem? hc)
theorem feeds_solo (sg:Nat) (wd:Int) (c0:Pc):∀(cs ds:List Pc),(∀x∈ds++cs,¬isBrk sg x)->feeds sg wd (c0::ds) cs=(c0::(ds++cs),[])
 | [],ds,_=>by simp [feeds]
 | d::cs,ds,h=>by
  unfold feeds
  rw [feed_solo sg wd c0 d ds fun x hx=>h x (by simp at hx ⊢;rcases hx with hx | hx;exact .inl hx;exact .inr (.inl hx))]
  rw [feeds_solo sg wd c0 cs (ds++[d]) fun x hx=>h x (by simpa using hx)]
  simp
theorem pLen_app (L M:List Pc):pLen (L++M)=pLen L+pLen M:=by simp [pLen]
theorem pLen_cons (c:Pc) (L:List Pc):pLen (c::L)=c.1.length+c.2.length+pLen L:=by simp [pLen]
theorem sum4 {a b c d e:Nat}:a+(b+c)+d<=a+(b+(c+(d+e))):=by lia
theorem feeds_blockT (sg:Nat) (wd:Int) (L:List Pc) (hL:L≠[]) (c:Pc) (hc:isBrk sg c):∀(cs ds:List Pc),(∀x∈ds++cs,¬isBrk sg x)->Int.ofNat (pLen (L++c::ds))<=wd->
  feeds sg wd (L++c::ds) cs=if Int.ofNat (pLen L+pLen (c::(ds++cs)))>wd then (c::(ds++cs),[pTx L]) else (L++c::(ds++cs),[])
 | [],ds,_,hw=>by
  rw [List.append_nil,←pLen_app,if_neg (Int.not_lt.mpr hw)];rfl
 | d::cs,ds,h,hw=>by
  have h1:∀x∈ds++[d]++cs,¬isBrk sg x:=fun x hx=>h x (by simpa using hx)
  have hl:1<=L.length:=by cases L with | nil=>exact absurd rfl hL | cons _ _=>simp
  have e0:L++c::ds++[d]=L++(c::(ds++[d])):=by simp
  unfold feeds
  by_cases hg:Int.ofNat (pLen (L++c::ds)+(d.1.length+d.2.length))>wd
  ·have hf:feed sg wd (L++c::ds) d=(c::(ds++[d]),[pTx L]):=by
    unfold feed
    rw [if_pos hg,brkP_at sg _ L.length c hl (by rw [e0];simp) hc _ (by simp) (fun j h2 h3 x hx=>by
     rw [e0,List.getElem?_append_right (Nat.le_of_lt h2)] at hx
     obtain ⟨i,hi⟩:∃i,j-L.length=i+1:=⟨j-L.length-1,(Nat.sub_add_cancel (Nat.sub_pos_of_lt h2)).symm⟩
     rw [hi] at hx
     exact h1 x (iL (List.mem_of_getElem? hx)))]
    simp only
    rw [e0]
    simp
   rw [hf]
   simp only
   rw [feeds_solo sg wd c cs (ds++[d]) h1]
   rw [if_pos]
   ·simp
   ·rw [pLen_app,pLen_cons] at hg
    rw [pLen_cons,pLen_app,pLen_cons]
    exact Int.lt_of_lt_of_le hg (Int.ofNat_le.mpr sum4)
  ·have hf:feed sg wd (L++c::ds) d=(L++c::(ds++[d]),[]):=by
    unfold feed
    rw [if_neg hg,e0]
   rw [hf]
   simp only
   rw [feeds_blockT sg wd L hL c hc cs (ds++[d]) h1 (by
    rw [←e0,pLen_app]
    have:pLen [d]=d.1.length+d.2.length:=by simp [pLen]
    rw [this];exact Int.not_lt.mp hg)]
   simp only [List.nil_append,List.append_assoc,List.singleton_append]
theorem feeds_block (sg:Nat) (wd:Int) (L:List Pc) (hL:L≠[]) (c:Pc) (hc:isBrk sg c) (cs:List Pc) (h:∀x∈cs,¬isBrk sg x):
  feeds sg wd L (c::cs)=if Int.ofNat (pLen L+pLen (c::cs))>wd then (c::cs,[pTx L]) else (L++c::cs,[]):=by
 have hl:1<=L.length:=by cases L with | nil=>exact absurd rfl hL | cons _ _=>simp
 unfold feeds
 by_cases hg:Int.ofNat (pLen L+(c.1.length+c.2.length))>wd
 ·have hf:feed sg wd L c=([c],[pTx L]):=by
   unfold feed
   rw [if_pos hg,brkP_at sg _ L.length c hl (by simp) hc _ (Nat.le_refl _) (fun j h2 h3=>absurd h3 (Nat.not_le_of_lt h2))]
   simp
  rw [hf]
  simp only
  rw [feeds_solo sg wd c cs [] h,if_pos]
  ·simp
  ·rw [pLen_cons]
   exact Int.lt_of_lt_of_le hg (Int.ofNat_le.mpr (Nat.add_le_add_left (Nat.le_add_right _ _) _))
 ·have hf:feed sg wd L c=(L++[c],[]):=by
   unfold feed
   rw [if_neg hg]
  rw [hf]
  simp only
  rw [feeds_blockT sg wd L hL c hc cs [] h (by
   rw [pLen_app]
   have:pLen [c]=c.1.length+c.2.length:=by simp [pLen]
   rw [this];exact Int.not_lt.mp hg)]
  simp
theorem feeds_app (sg:Nat) (wd:Int):∀(a b L:List Pc),feeds sg wd L (a++b)=((feeds sg wd (feeds sg wd L a).1 b).1,(feeds sg wd L a).2++(feeds sg wd (feeds sg wd L a).1 b).2)
 | [],b,L=>by simp [feeds]
 | c::a,b,L=>by
  show feeds sg wd L (c::(a++b))=_
  simp only [feeds,feeds_app sg wd a b,List.append_assoc]
noncomputable def pgB (wd:Int):Nat->List LN->LN
 | _,[]=>[]
 | f,b::bs=>if Int.ofNat (f+b.length)>wd then 10::(b++pgB wd b.length bs) else b++pgB wd (f+b.length) bs
theorem pTx_len (L:List Pc):(pTx L).length=pLen L:=by simp [pTx,pLen,List.length_flatMap]
theorem pTx_app (L M:List Pc):pTx (L++M)=pTx L++pTx M:=by simp [pTx]
theorem glue_cons (a b:LN) (l:List LN):glue [10] (a::b::l)=a++10::glue [10] (b::l):=by simp [glue]
def BlkOk (sg:Nat) (b:List Pc):Prop:=∃c cs,b=c::cs/\isBrk sg c/\∀x∈cs,¬isBrk sg x
theorem feeds_blocks (sg:Nat) (wd:Int):∀(bs:List (List Pc)) (L:List Pc),L≠[]->(∀b∈bs,BlkOk sg b)->
  glue [10] ((feeds sg wd L bs.flatten).2++[pTx (feeds sg wd L bs.flatten).1])=pTx L++pgB wd (pLen L) (bs.map pTx)
 | [],L,_,_=>by simp [feeds,glue,pgB]
 | b::bs,L,hL,h=>by
  obtain ⟨c,cs,rfl,hc,hcs⟩:=h b (.head _)
  rw [List.flatten_cons,feeds_app,feeds_block sg wd L hL c hc cs hcs,List.map_cons,pgB,pTx_len]
  split
  ·have IH:=feeds_blocks sg wd bs (c::cs) (by simp) fun b hb=>h b (.tail _ hb)
   simp only [List.cons_append,List.nil_append]
   rw [←IH]
   cases hx:(feeds sg wd (c::cs) bs.flatten).2 with
   | nil=>simp [glue]
   | cons a l=>rw [List.cons_append,glue_cons]
  ·have IH:=feeds_blocks sg wd bs (L++c::cs) (by simp) fun b hb=>h b (.tail _ hb)
   simp only [List.nil_append]
   rw [IH,pTx_app,pLen_app,List.append_assoc]
theorem page_blocks (sg:Nat) (wd:Int) (c0:Pc) (ds:List Pc) (bs:List (List Pc)) (h0:∀x∈ds,¬isBrk sg x) (h:∀b∈bs,BlkOk sg b):
  pageOf sg wd ((c0::ds)++bs.flatten)=pTx (c0::ds)++pgB wd (pLen (c0::ds)) (bs.map pTx):=by
 unfold pageOf
 have e:feeds sg wd [] (c0::ds)=(c0::ds,[]):=by
  show ((feeds sg wd (feed sg wd [] c0).1 ds).1,(feed sg wd [] c0).2++(feeds sg wd (feed sg wd [] c0).1 ds).2)=_
  rw [feed_nil,feeds_solo sg wd c0 ds [] h0];simp
 rw [feeds_app,e]
 simp only [List.nil_append]
 exact feeds_blocks sg wd bs (c0::ds) (by simp) h
def segs:LN->LN×List Seg
 | []=>([],[])
 | c::r=>match blank c with
  | false=>(c::(segs r).1,(segs r).2)
  | true=>match (segs r).1 with
   | []=>match (segs r).2 with
    | []=>([],[([c],[])])
    | g::gs=>([],(c::g.1,g.2)::gs)
   | d::p=>([],([c],d::p)::(segs r).2)
noncomputable def calm (sg:Nat):Bool->LN->Prop
 | _,[]=>True
 | pb,c::r=>(c=sg->pb=true)/\calm sg (blank c) r
def endOk (x:LN):Prop:=∀e,x.getLast?=some e->blank e=false
theorem endOk_tail {c:Nat} {r:LN} (h:endOk (c::r)) (hr:r≠[]):endOk r:=fun e he=>h e (by
 cases r with
 | nil=>exact absurd rfl hr
 | cons d r=>rw [List.getLast?_cons_cons];exact he)
noncomputable def SegsP (sg:Nat) (x:LN):Prop:=x≠[]->endOk x->x=(segs x).1++segTx (segs x).2/\(∀d∈(segs x).1,blank d=false)/\(∀g∈(segs x).2,g.ok)/\((segs x).1=[]->∃g gs,(segs x).2=g::gs/\g.1.head?=x.head?)/\(∀c,x.head?=some c->(blank c=false↔(segs x).1≠[]))
  /\∀pb,calm sg pb x->(∀g∈(segs x).2.tail,¬isBrk sg g)/\((segs x).1≠[]\/pb=false->∀g∈(segs x).2,¬isBrk sg g)
theorem segs_ok (sg:Nat):∀(x:LN),SegsP sg x
 | []=>fun h _=>absurd rfl h
 | c::[]=>fun _ he=>by
  have hc:blank c=false:=he c rfl
  have e:segs [c]=([c],[]):=by simp [segs,hc]
  rw [e]
  refine ⟨by simp [segTx],?_,by simp,by simp,?_,?_⟩
  ·intro d hd;simp at hd;subst hd;exact hc
  ·intro d hd;simp at hd;subst hd;simp [hc]
  ·intro pb _;simp
 | c::d::r=>fun _ he=>by
  have IH:=segs_ok sg (d::r) (by simp) (endOk_tail he (by simp))
  obtain ⟨h1,h2,h3,h4,h5,h6⟩:=IH
  cases hc:blank c with
  | false=>
   have e:segs (c::d::r)=(c::(segs (d::r)).1,(segs (d::r)).2):=by
    rw [segs,hc]
   rw [e]
   refine ⟨?_,?_,h3,by simp,?_,?_⟩
   ·show c::d::r=c::(_++_);rw [←h1]
   ·intro x hx
    rcases iC hx with rfl | hx
    ·exact hc
    ·exact h2 x hx
   ·intro x hx;simp at hx;subst hx;simp [hc]
   ·intro pb hcalm
    have:=h6 (blank c) hcalm.2
    rw [hc] at this
    exact ⟨this.1,fun _=>this.2 (.inr rfl)⟩
  | true=>
   cases hp:(segs (d::r)).1 with
   | nil=>
    obtain ⟨g,gs,hg,hgh⟩:=h4 hp
    have e:segs (c::d::r)=([],(c::g.1,g.2)::gs):=by
     rw [segs,hc];simp only [hp,hg]
    rw [e]
    rw [hg] at h1 h3 h6
    rw [hp] at h1 h6
    have hgok:=h3 g (.head _)
    refine ⟨?_,by simp,?_,?_,?_,?_⟩
    ·show c::d::r=_
     rw [h1];simp [segTx]
    ·intro y hy
     rcases iC hy with rfl | hy
     ·refine ⟨by simp,?_,hgok.2.2.1,hgok.2.2.2⟩
      intro z hz
      rcases iC hz with rfl | hz
      ·exact hc
      ·exact hgok.2.1 z hz
     ·exact h3 y (.tail _ hy)
    ·intro _;exact ⟨_,_,rfl,rfl⟩
    ·intro x hx;simp at hx;subst hx;simp [hc]
    ·intro pb hcalm
     have z:=h6 (blank c) hcalm.2
     have zt:∀g∈gs,¬isBrk sg g:=z.1
     refine ⟨zt,?_⟩
     rintro (hh | hh)
     ·exact absurd rfl hh
     ·intro y hy
      rcases iC hy with rfl | hy
      ·intro hb
       have hb:some c=some sg:=hb
       have:c=sg:=by injection hb
       have:=hcalm.1 this
       rw [hh] at this;cases this
      ·exact zt y hy
   | cons q p=>
    have e:segs (c::d::r)=([],([c],q::p)::(segs (d::r)).2):=by
     rw [segs,hc];simp only [hp]
    rw [e]
    rw [hp] at h1 h2 h6
    refine ⟨?_,by simp,?_,?_,?_,?_⟩
    ·show c::d::r=[c]++(q::p)++segTx (segs (d::r)).2
     rw [List.append_assoc,←h1];rfl
    ·intro y hy
     rcases iC hy with rfl | hy
     ·refine ⟨by simp,?_,h2,by simp⟩
      intro z hz;simp at hz;subst hz;exact hc
     ·exact h3 y hy
    ·intro _;exact ⟨_,_,rfl,rfl⟩
    ·intro x hx;simp at hx;subst hx;simp [hc]
    ·intro pb hcalm
     have z:=(h6 (blank c) hcalm.2).2 (.inl (by simp))
     refine ⟨z,?_⟩
     rintro (hh | hh)
     ·exact absurd rfl hh
     ·intro y hy
      rcases iC hy with rfl | hy
      ·intro hb
       have hb:some c=some sg:=hb
       have:c=sg:=by injection hb
       have:=hcalm.1 this
       rw [hh] at this;cases this
      ·exact z y hy
theorem segTx_app:∀(a b:List Seg),segTx (a++b)=segTx a++segTx b
 | [],b=>rfl
 | g::a,b=>by show g.1++g.2++segTx (a++b)=g.1++g.2++segTx a++segTx b;rw [segTx_app a b];simp
theorem segTx_flat:∀(l:List (List Seg)),segTx l.flatten=(l.map segTx).flatten
 | []=>rfl
 | a::l=>by rw [List.flatten_cons,segTx_app,segTx_flat l];rfl
theorem pTx_seg:∀(a:List Seg),pTx a=segTx a
 | []=>rfl
 | g::a=>by
  show g.1++g.2++pTx a=g.1++g.2++segTx a;rw [pTx_seg a]
def TBlk (sg:Nat) (b:LN):Prop:=∃r,b=sg::r/\calm sg true r/\endOk b
theorem page_text (sg:Nat) (wd:Int) (hsg:sg=32\/sg=9) (t:LN) (bs:List LN) (c:Nat) (ht:t.head?=some c) (hc:blank c=false) (hcalm:calm sg false t) (he:endOk t) (hb:∀b∈bs,TBlk sg b):
  ∃(p:LN) (gs:List Seg),t++bs.flatten=(c::p)++segTx gs/\(∀d∈c::p,blank d=false)/\(∀g∈gs,g.ok)/\pageOf sg wd (([],c::p)::gs)=t++pgB wd t.length bs:=by
 have hbl:blank sg=true:=by rcases hsg with rfl | rfl <;>rfl
 have ht0:t≠[]:=by rintro rfl;cases ht
 obtain ⟨h1,h2,h3,h4,h5,h6⟩:=segs_ok sg t ht0 he
 have hp:=(h5 c ht).mp hc
 obtain ⟨p,e⟩:∃p,(segs t).1=c::p:=by
  cases hq:(segs t).1 with
  | nil=>exact absurd hq hp
  | cons d p=>
   rw [hq] at h1
   have:t.head?=some d:=by rw [h1];rfl
   rw [ht] at this
   injection this with this
   exact ⟨p,by rw [this]⟩
 have key:∀b,TBlk sg b->b=segTx (segs b).2/\(∀g∈(segs b).2,g.ok)/\BlkOk sg (segs b).2:=fun b hb=>by
  obtain ⟨r,rfl,hr,hbe⟩:=hb
  obtain ⟨k1,k2,k3,k4,k5,k6⟩:=segs_ok sg (sg::r) (by simp) hbe
  have hp0:(segs (sg::r)).1=[]:=by
   by_cases hz:(segs (sg::r)).1=[]
   ·exact hz
   ·have:=(k5 sg rfl).mpr hz
    rw [hbl] at this;cases this
  obtain ⟨g,gs,hg,hgh⟩:=k4 hp0
  have k:=k6 true ⟨fun _=>rfl,by rw [hbl];exact hr⟩
  rw [hg] at k
  refine ⟨?_,k3,⟨g,gs,hg,hgh,k.1⟩⟩
  have:=k1
  rw [hp0] at this
  exact this
 have hbs:bs=(bs.map fun b=>(segs b).2).map segTx:=by
  rw [List.map_map]
  conv=>lhs;rw [←List.map_id bs]
  exact List.map_congr_left fun b hbm=>(key b (hb b hbm)).1
 have hte:t=pTx (([],c::p)::(segs t).2):=by
  show t=[]++(c::p)++pTx (segs t).2
  rw [pTx_seg,←e];simpa using h1
 refine ⟨p,(segs t).2++(bs.map fun b=>(segs b).2).flatten,?_,?_,?_,?_⟩
 ·rw [segTx_app,segTx_flat,←hbs,←e,←List.append_assoc,←h1]
 ·rw [←e];exact h2
 ·intro g hg
  rcases iA hg with hg | hg
  ·exact h3 g hg
  ·obtain ⟨l,hl,hg⟩:=List.mem_flatten.mp hg
   obtain ⟨b,hbm,rfl⟩:=List.mem_map.mp hl
   exact (key b (hb b hbm)).2.1 g hg
 ·have z:=page_blocks sg wd ([],c::p) (segs t).2 (bs.map fun b=>(segs b).2) ((h6 false hcalm).2 (.inr rfl)) (fun l hl=>by
   obtain ⟨b,hbm,rfl⟩:=List.mem_map.mp hl
   exact (key b (hb b hbm)).2.2)
  have e2:(bs.map fun b=>(segs b).2).map pTx=bs:=by
   rw [List.map_congr_left (g:=segTx) fun a _=>pTx_seg a,←hbs]
  rw [e2,←hte,←pTx_len,←hte] at z
  exact z
noncomputable def preN (n:LN):LN:=n.dropLast
noncomputable def lastN (n:LN):Nat:=n.getLastD 0
theorem num_eq {n:LN} (h:n≠[]):n=preN n++[lastN n]:=by
 unfold preN lastN
 rw [List.getLastD_eq_getLast?,List.getLast?_eq_some_getLast h]
 exact (List.dropLast_concat_getLast h).symm
noncomputable def encQ (c:Nat):LN:=if c=34\/c=92 then [92,c] else [c]
def enc (q:Bool) (c:Nat):LN:=if q=true then encQ c else [92,c]
def preTx (q:Bool) (n:LN):LN:=(preN n).flatMap fun f=>enc q (f+64)
def place (q:Bool) (sg ahead:Nat) (n:LN):Bool:=lastN n==sg&& !(q&&n.length==1&&(ahead==32|| ahead==9))
noncomputable def quoT (q:Bool):LN:=if q=true then [34] else []
noncomputable def bsT (q:Bool):LN:=if q=true then [] else [92]
noncomputable def blks (q:Bool) (sg:Nat):Nat->List LN->LN×List LN
 | _,[]=>(quoT q,[])
 | ahead,n::ns=>if place q sg ahead n=true then (preTx q n++bsT q,(sg::(blks q sg (lastN n) ns).1)::(blks q sg (lastN n) ns).2)
   else (preTx q n++enc q (lastN n)++(blks q sg (lastN n) ns).1,(blks q sg (lastN n) ns).2)
theorem blks_cons (q:Bool) (sg a:Nat) (n:LN) (ns:List LN):blks q sg a (n::ns)=if place q sg a n=true then (preTx q n++bsT q,(sg::(blks q sg (lastN n) ns).1)::(blks q sg (lastN n) ns).2)
   else (preTx q n++enc q (lastN n)++(blks q sg (lastN n) ns).1,(blks q sg (lastN n) ns).2):=rfl
def signs (ns:List LN):LN:=ns.flatMap vcode
def txT (q:Bool) (ns:List LN):LN:=quoT q++(signs ns).flatMap (enc q)++quoT q
def preSz (q:Bool) (n:LN):Nat:=((preN n).map fun f=>if f=28\/q=false then 2 else 1).sum
noncomputable def lastSz (q:Bool) (e:Nat):Nat:=if e=34\/q=false then 2 else 1
noncomputable def bkB (q:Bool) (sg z:Nat):Nat->Nat->List LN->LN
 | _,cur,[]=>[cur+z]
 | ahead,cur,n::ns=>if place q sg ahead n=true then (cur+preSz q n+(if q=true then 0 else 1))::bkB q sg z (lastN n) 1 ns
   else bkB q sg z (lastN n) (cur+preSz q n+lastSz q (lastN n)) ns
noncomputable def bkP (q:Bool) (sg:Nat):Nat->Nat->List LN->LN
 | _,_,[]=>[]
 | ahead,k,n::ns=>if place q sg ahead n=true then k::bkP q sg (lastN n) (k+1) ns else bkP q sg (lastN n) (k+1) ns
noncomputable def pt (wd:Nat):Nat->LN->LN->LN
 | f,s::ss,p::ps=>if f+s>wd then p::pt wd s ss ps else pt wd (f+s) ss ps
 | _,_,_=>[]
noncomputable def qz (q:Bool):Nat:=if q=true then 1 else 0
def partedOf (q:Bool) (sg wd:Nat) (ns:List LN):LN:=pt wd ((bkB q sg (qz q) 63 (qz q) ns).headD 0) (bkB q sg (qz q) 63 (qz q) ns).tail (bkP q sg 63 0 ns)
noncomputable def pgN (q:Bool) (sg:Nat) (P:LN):Nat->List LN->LN
 | _,[]=>quoT q
 | k,n::ns=>if k∈P then preTx q n++bsT q++[10,sg]++pgN q sg P (k+1) ns else preTx q n++enc q (lastN n)++pgN q sg P (k+1) ns
noncomputable def NGood (n:LN):Prop:=n≠[]/\∀f∈n,f<64
noncomputable def endNB:Nat->List LN->Prop
 | a,[]=>blank a=false
 | _,n::ns=>endNB (lastN n) ns
theorem vcode_eq:∀{n:LN},n≠[]->vcode n=(preN n).map (· +64)++[lastN n]
 | [],h=>absurd rfl h
 | [x],_=>rfl
 | x::y::r,_=>by
  have IH:=vcode_eq (n:=y::r) (by simp)
  have h1:preN (x::y::r)=x::preN (y::r):=rfl
  have h2:lastN (x::y::r)=lastN (y::r):=by simp [lastN]
  rw [vcode_cons,IH,h1,h2,if_neg (by simp)];rfl
theorem place_last {q:Bool} {sg a:Nat} {n:LN} (h:place q sg a n=true):lastN n=sg:=by
 unfold place at h
 simp only [Bool.and_eq_true,beq_iff_eq] at h
 exact h.1
theorem enc_sg {q:Bool} {sg:Nat} (h:sg=32\/sg=9):enc q sg=bsT q++[sg]:=by
 cases q <;>rcases h with rfl | rfl <;>rfl
theorem vcode_enc {q:Bool} {n:LN} (h:n≠[]):(vcode n).flatMap (enc q)=preTx q n++enc q (lastN n):=by
 rw [vcode_eq h,List.flatMap_append,List.flatMap_map]
 unfold preTx
 simp
theorem blks_tx (q:Bool) (sg:Nat) (hsg:sg=32\/sg=9):∀(ns:List LN) (a:Nat),(∀n∈ns,NGood n)->(signs ns).flatMap (enc q)++quoT q=(blks q sg a ns).1++(blks q sg a ns).2.flatten
 | [],a,_=>by simp [signs,blks]
 | n::ns,a,h=>by
  have IH:=blks_tx q sg hsg ns (lastN n) fun m hm=>h m (.tail _ hm)
  have e:signs (n::ns)=vcode n++signs ns:=rfl
  rw [e,List.flatMap_append,vcode_enc (h n (.head _)).1,List.append_assoc,IH]
  rw [blks_cons]
  by_cases hp:place q sg a n=true
  ·rw [if_pos hp,place_last hp,enc_sg hsg];simp
  ·rw [if_neg hp];simp
theorem enc_nb (q:Bool) (f:Nat) (hf:f<64):(∀c∈enc q (f+64),blank c=false/\c≠32/\c≠9)/\enc q (f+64)≠[]:=by
 have hb:blank (f+64)=false:=by unfold blank;simp <;>omega
 cases q
 ·refine ⟨fun c hc=>?_,by simp [enc]⟩
  simp [enc] at hc
  rcases hc with rfl | rfl
  ·exact ⟨rfl,by decide,by decide⟩
  ·exact ⟨hb,by lia,by lia⟩
 ·have e:enc true (f+64)=encQ (f+64):=rfl
  rw [e]
  unfold encQ
  split
  ·refine ⟨fun c hc=>?_,by simp⟩
   simp at hc
   rcases hc with rfl | rfl
   ·exact ⟨rfl,by decide,by decide⟩
   ·exact ⟨hb,by lia,by lia⟩
  ·refine ⟨fun c hc=>?_,by simp⟩
   simp at hc
   subst hc
   exact ⟨hb,by lia,by lia⟩
theorem calm_app (sg:Nat):∀(x:LN) (pb:Bool) (y:LN),(∀c∈x,blank c=false/\c≠sg)->calm sg (if x=[] then pb else false) y->calm sg pb (x++y)
 | [],pb,y,_,h=>by simpa using h
 | c::x,pb,y,hx,h=>by
  have hc:=hx c (.head _)
  refine ⟨fun e=>absurd e hc.2,?_⟩
  show calm sg (blank c) (x++y)
  rw [hc.1]
  refine calm_app sg x false y (fun d hd=>hx d (.tail _ hd)) ?_
  rw [if_neg (by simp)] at h
  split <;>exact h
theorem preTx_nb (q:Bool) {n:LN} (h:NGood n):(∀c∈preTx q n,blank c=false/\c≠32/\c≠9)/\(preTx q n=[]↔n.length=1):=by
 have hm:∀f∈preN n,f<64:=fun f hf=>h.2 f ((List.dropLast_sublist n).subset hf)
 refine ⟨fun c hc=>?_,?_⟩
 ·obtain ⟨f,hf,hc⟩:=List.mem_flatMap.mp hc
  exact (enc_nb q f (hm f hf)).1 c hc
 ·have hl:n.length=(preN n).length+1:=by conv=>lhs;rw [num_eq h.1];simp
  cases hp:preN n with
  | nil=>rw [hp] at hl;simp [preTx,hp];omega
  | cons f r=>
   rw [hp] at hl hm
   have:=(enc_nb q f (hm f (.head _))).2
   constructor
   ·intro e
    unfold preTx at e
    rw [hp,List.flatMap_cons] at e
    exact absurd (List.append_eq_nil_iff.mp e).1 this
   ·intro e;rw [e] at hl;simp at hl
theorem endOk_app {x y:LN} (hy:y≠[]) (h:endOk y):endOk (x++y):=fun e he=>by
 rw [List.getLast?_append] at he
 cases hh:y.getLast? with
 | none=>rw [List.getLast?_eq_none_iff] at hh;exact absurd hh hy
 | some z=>rw [hh] at he;exact h e (by rw [hh];exact he)
theorem endOk_nb {x:LN} (h:∀c∈x,blank c=false):endOk x:=fun e he=>h e (List.mem_of_getLast? he)
noncomputable def BlksP (q:Bool) (sg:Nat) (ns:List LN) (a:Nat):Prop:=(∀n∈ns,NGood n)->endNB a ns->
  calm sg (blank a) (blks q sg a ns).1/\((blks q sg a ns).1=[]->blank a=false)/\endOk (blks q sg a ns).1/\∀b∈(blks q sg a ns).2,TBlk sg b
theorem blks_ok (q:Bool) (sg:Nat) (hsg:sg=32\/sg=9):∀(ns:List LN) (a:Nat),BlksP q sg ns a
 | [],a=>fun _ he=>by
  have hbl:¬(34=sg):=by rcases hsg with rfl | rfl <;>decide
  cases q
  ·exact ⟨trivial,fun _=>he,fun e h=>(nomatch h),fun b hb=>(nomatch hb)⟩
  ·refine ⟨⟨fun h=>absurd h hbl,trivial⟩,fun _=>he,fun e h=>?_,fun b hb=>(nomatch hb)⟩
   have:some 34=some e:=h
   injection this with this
   subst this;rfl
 | n::ns,a=>fun h he=>by
  have hbl:blank sg=true:=by rcases hsg with rfl | rfl <;>rfl
  have hn:=h n (.head _)
  obtain ⟨i1,i2,i3,i4⟩:=blks_ok q sg hsg ns (lastN n) (fun m hm=>h m (.tail _ hm)) he
  obtain ⟨p1,p2⟩:=preTx_nb q hn
  have p1':∀c∈preTx q n,blank c=false/\c≠sg:=fun c hc=>by
   have:=p1 c hc
   refine ⟨this.1,?_⟩
   rcases hsg with rfl | rfl
   ·exact this.2.1
   ·exact this.2.2
  have hbs:∀c∈bsT q,blank c=false/\c≠sg:=fun c hc=>by
   cases q
   ·simp [bsT] at hc
    subst hc
    exact ⟨rfl,by rcases hsg with rfl | rfl <;>decide⟩
   ·simp [bsT] at hc
  have nb:∀c∈preTx q n++bsT q,blank c=false/\c≠sg:=fun c hc=>by
   rcases iA hc with hc | hc
   ·exact p1' c hc
   ·exact hbs c hc
  rw [blks_cons]
  by_cases hp:place q sg a n=true
  ·rw [if_pos hp]
   have hl:=place_last hp
   rw [hl] at i1 i2 i3 i4 ⊢
   rw [hbl] at i1 i2
   refine ⟨?_,fun hh=>?_,endOk_nb fun c hc=>(nb c hc).1,fun b hb=>?_⟩
   ·have:=calm_app sg (preTx q n++bsT q) (blank a) [] nb trivial
    rwa [List.append_nil] at this
   ·obtain ⟨h1,h2⟩:=List.append_eq_nil_iff.mp hh
    have hq:q=true:=by cases q with | true=>rfl | false=>simp [bsT] at h2
    have hlen:=p2.mp h1
    unfold place at hp
    simp [hq,hlen] at hp
    unfold blank
    simp [hp.2]
   ·rcases iC hb with rfl | hb
    ·refine ⟨_,rfl,i1,?_⟩
     have hne:(blks q sg sg ns).1≠[]:=fun e=>(nomatch i2 e)
     exact endOk_app (x:=[sg]) hne i3
    ·exact i4 b hb
  ·rw [if_neg hp]
   have hp:place q sg a n=false:=by simpa using hp
   have hlast:lastN n<64:=hn.2 _ (by rw [num_eq hn.1];simp [lastN])
   have eL:∀y,calm sg (blank (lastN n)) y->calm sg (if preTx q n=[] then blank a else false) (enc q (lastN n)++y):=fun y hy=>by
    have c92:¬(92=sg):=by rcases hsg with rfl | rfl <;>decide
    cases q with
    | false=>
     refine ⟨fun e=>absurd e c92,?_⟩
     show calm sg false (lastN n::y)
     refine ⟨fun e=>?_,hy⟩
     exfalso
     unfold place at hp
     simp [e] at hp
    | true=>
     have e:enc true (lastN n)=encQ (lastN n):=rfl
     rw [e]
     unfold encQ
     by_cases h1:lastN n=34\/lastN n=92
     ·rw [if_pos h1]
      refine ⟨fun e=>absurd e c92,?_⟩
      show calm sg false (lastN n::y)
      refine ⟨fun e=>?_,hy⟩
      exfalso
      rcases h1 with h1 | h1 <;>rcases hsg with h2 | h2 <;>lia
     ·rw [if_neg h1]
      refine ⟨fun e=>?_,hy⟩
      unfold place at hp
      simp [e] at hp
      rw [if_pos (p2.mpr hp.1)]
      unfold blank
      have:=hp.2
      by_cases h32:a=32
      ·simp [h32]
      ·simp [this h32]
   have encNe:enc q (lastN n)≠[]:=by
    cases q
    ·simp [enc]
    ·show encQ (lastN n)≠[]
     unfold encQ;split <;>simp
   refine ⟨?_,fun hh=>?_,?_,i4⟩
   ·rw [List.append_assoc]
    exact calm_app sg _ _ _ p1' (eL _ i1)
   ·exact absurd (List.append_eq_nil_iff.mp (List.append_eq_nil_iff.mp hh).1).2 encNe
   ·by_cases ht:(blks q sg (lastN n) ns).1=[]
    ·rw [ht,List.append_nil]
     refine endOk_app encNe ?_
     have hb:=i2 ht
     have hel:(enc q (lastN n)).getLast?=some (lastN n):=by
      cases q
      ·rfl
      ·show (encQ (lastN n)).getLast?=_
       unfold encQ;split <;>rfl
     intro e he
     rw [hel] at he
     injection he with he
     rw [←he];exact hb
    ·exact endOk_app ht i3
theorem enc_len (q:Bool) (c:Nat):(enc q c).length=if (c=34\/c=92)\/q=false then 2 else 1:=by
 cases q
 ·simp [enc]
 ·show (encQ c).length=_
  unfold encQ
  by_cases h:c=34\/c=92
  ·simp [h]
  ·simp [h]
theorem preTx_len (q:Bool) (n:LN):(preTx q n).length=preSz q n:=by
 unfold preTx preSz
 rw [List.length_flatMap]
 congr 1
 refine List.map_congr_left fun f _=>?_
 rw [enc_len]
 have:(f+64=34\/f+64=92)↔f=28:=by lia
 simp only [this]
theorem bkB_eq (q:Bool) (sg:Nat):∀(ns:List LN) (a cur:Nat),(∀n∈ns,NGood n)->bkB q sg (qz q) a cur ns=(cur+(blks q sg a ns).1.length)::(blks q sg a ns).2.map List.length
 | [],a,cur,_=>by cases q <;>rfl
 | n::ns,a,cur,h=>by
  have IH:=fun a cur=>bkB_eq q sg ns a cur fun m hm=>h m (.tail _ hm)
  have hn:=h n (.head _)
  have hlast:lastN n<64:=hn.2 _ (by rw [num_eq hn.1];simp [lastN])
  rw [blks_cons]
  unfold bkB
  by_cases hp:place q sg a n=true
  ·rw [if_pos hp,if_pos hp]
   simp only [List.map_cons,List.length_append,preTx_len,IH,List.length_cons]
   have:(bsT q).length=if q=true then 0 else 1:=by cases q <;>rfl
   rw [this,Nat.add_assoc,Nat.add_comm 1]
  ·rw [if_neg hp,if_neg hp]
   simp only [IH,List.length_append,preTx_len,enc_len]
   have:((lastN n=34\/lastN n=92)\/q=false)↔(lastN n=34\/q=false):=by
    have h92:¬lastN n=92:=by lia
    simp [h92]
   simp only [this,lastSz]
   congr 1
   lia
theorem bkP_ge (q:Bool) (sg:Nat):∀(ns:List LN) (a k:Nat),∀j∈bkP q sg a k ns,k<=j
 | [],a,k,j,h=>by cases h
 | n::ns,a,k,j,h=>by
  unfold bkP at h
  split at h
  ·rcases iC h with rfl | h
   ·exact Nat.le_refl _
   ·have:=bkP_ge q sg ns _ _ j h;lia
  ·have:=bkP_ge q sg ns _ _ j h;lia
theorem pt_mem (wd:Nat):∀(ss:LN) (f:Nat) (ps:LN),∀j∈pt wd f ss ps,j∈ps
 | [],f,ps,j,h=>by simp [pt] at h
 | s::ss,f,[],j,h=>by simp [pt] at h
 | s::ss,f,p::ps,j,h=>by
  unfold pt at h
  split at h
  ·rcases iC h with rfl | h
   ·exact .head _
   ·exact .tail _ (pt_mem wd ss _ ps j h)
  ·exact .tail _ (pt_mem wd ss _ ps j h)
theorem pgN_congr (q:Bool) (sg:Nat):∀(ns:List LN) (P P':LN) (k:Nat),(∀j,k<=j->(j∈P↔j∈P'))->pgN q sg P k ns=pgN q sg P' k ns
 | [],_,_,_,_=>rfl
 | n::ns,P,P',k,h=>by
  unfold pgN
  rw [pgN_congr q sg ns P P' (k+1) fun j hj=>h j (by lia)]
  have e:=h k (Nat.le_refl _)
  simp only [e]
theorem pg_numbers (q:Bool) (sg wd:Nat) (hsg:sg=32\/sg=9):∀(ns:List LN) (a k f:Nat),(∀n∈ns,NGood n)->
  (blks q sg a ns).1++pgB (Int.ofNat wd) f (blks q sg a ns).2=pgN q sg (pt wd f ((blks q sg a ns).2.map List.length) (bkP q sg a k ns)) k ns
 | [],a,k,f,_=>by simp [blks,pgB,pgN]
 | n::ns,a,k,f,h=>by
  have IH:=fun a k f=>pg_numbers q sg wd hsg ns a k f fun m hm=>h m (.tail _ hm)
  rw [blks_cons]
  unfold bkP
  by_cases hp:place q sg a n=true
  ·rw [if_pos hp,if_pos hp]
   have hl:=place_last hp
   simp only [List.map_cons]
   have cond:(Int.ofNat (f+(sg::(blks q sg (lastN n) ns).1).length)>Int.ofNat wd)↔(f+(sg::(blks q sg (lastN n) ns).1).length>wd):=Int.ofNat_lt
   unfold pgB pt
   have hge:=fun s f=>fun j hj=>bkP_ge q sg ns (lastN n) (k+1) j (pt_mem wd s f _ j hj)
   by_cases hc:f+(sg::(blks q sg (lastN n) ns).1).length>wd
   ·rw [if_pos (cond.mpr hc),if_pos hc]
    unfold pgN
    rw [if_pos (.head _),pgN_congr q sg ns (k::pt wd _ _ _) (pt wd _ _ _) (k+1) (fun j hj=>⟨fun hm=>by
     rcases iC hm with rfl | hm
     ·lia
     ·exact hm,fun hm=>.tail _ hm⟩),←IH]
    simp
   ·rw [if_neg (fun hh=>hc (cond.mp hh)),if_neg hc]
    unfold pgN
    rw [if_neg (fun hm=>by have:=hge _ _ k hm;lia),←IH,hl,enc_sg hsg]
    simp
  ·rw [if_neg hp,if_neg hp]
   unfold pgN
   rw [if_neg (fun hm=>by have:=bkP_ge q sg ns (lastN n) (k+1) k (pt_mem wd _ _ _ k hm);lia),←IH]
   simp
theorem page_numbers (q:Bool) (sg wd:Nat) (hsg:sg=32\/sg=9) (ns:List LN) (hns:ns≠[]) (hg:∀n∈ns,NGood n) (he:endNB 63 ns):
  ∃(c:Nat) (p:LN) (gs:List Seg),txT q ns=(c::p)++segTx gs/\(∀d∈c::p,blank d=false)/\(∀g∈gs,g.ok)/\pageOf sg (Int.ofNat wd) (([],c::p)::gs)=quoT q++pgN q sg (partedOf q sg wd ns) 0 ns:=by
 obtain ⟨b1,b2,b3,b4⟩:=blks_ok q sg hsg ns 63 hg he
 have b1:calm sg false (blks q sg 63 ns).1:=b1
 have hq:∀c∈quoT q,blank c=false/\c≠sg:=fun c hc=>by
  cases q
  ·cases hc
  ·have:c=34:=by simpa [quoT] using hc
   subst this
   exact ⟨rfl,by rcases hsg with rfl | rfl <;>decide⟩
 have hne:(blks q sg 63 ns).1≠[]\/q=true:=by
  cases q with
  | true=>exact .inr rfl
  | false=>
   left
   cases ns with
   | nil=>exact absurd rfl hns
   | cons n ns=>
    rw [blks_cons]
    by_cases hp:place false sg 63 n=true
    ·rw [if_pos hp];simp [bsT]
    ·rw [if_neg hp];simp [enc]
 obtain ⟨c,hc,hcb⟩:∃c,(quoT q++(blks q sg 63 ns).1).head?=some c/\blank c=false:=by
  cases q with
  | true=>exact ⟨34,rfl,rfl⟩
  | false=>
   cases ns with
   | nil=>exact absurd rfl hns
   | cons n ns=>
    have hn:=hg n (.head _)
    have hh:∀y,(preTx false n++92::y).head?=some 92:=fun y=>by
     unfold preTx
     cases preN n with
     | nil=>rfl
     | cons f r=>rfl
    refine ⟨92,?_,rfl⟩
    show (blks false sg 63 (n::ns)).1.head?=some 92
    rw [blks_cons]
    by_cases hp:place false sg 63 n=true
    ·rw [if_pos hp];exact hh []
    ·rw [if_neg hp]
     show (preTx false n++[92,lastN n]++_).head?=_
     rw [List.append_assoc];exact hh _
 obtain ⟨p,gs,t1,t2,t3,t4⟩:=page_text sg (Int.ofNat wd) hsg (quoT q++(blks q sg 63 ns).1) (blks q sg 63 ns).2 c hc hcb
  (calm_app sg _ _ _ hq (by split <;>exact b1)) (by
   by_cases h:(blks q sg 63 ns).1=[]
   ·rw [h,List.append_nil];exact endOk_nb fun c hc=>(hq c hc).1
   ·exact endOk_app h b3) b4
 refine ⟨c,p,gs,?_,t2,t3,?_⟩
 ·rw [←t1]
  unfold txT
  rw [List.append_assoc,List.append_assoc,blks_tx q sg hsg ns 63 hg]
 ·rw [t4,List.append_assoc,pg_numbers q sg wd hsg ns 63 0 _ hg]
  unfold partedOf
  rw [bkB_eq q sg ns 63 (qz q) hg]
  have:(quoT q++(blks q sg 63 ns).1).length=qz q+(blks q sg 63 ns).1.length:=by
   rw [List.length_append];cases q <;>rfl
  rw [this];rfl
noncomputable def dueN (q:Bool) (sg:Nat) (P:LN):Nat->List LN->List LN×List (List LN)
 | _,[]=>([],[])
 | k,n::ns=>if k∈P then (if q=true then ((preN n++[10])::[sg]::(dueN q sg P (k+1) ns).1,(dueN q sg P (k+1) ns).2) else ([preN n++[10]],(dueN q sg P (k+1) ns).1::(dueN q sg P (k+1) ns).2))
   else (n::(dueN q sg P (k+1) ns).1,(dueN q sg P (k+1) ns).2)
section
variable (q:Bool) (sg:Nat) (P:LN) (k:Nat) (n:LN) (ns:List LN)
theorem dueN_cons:dueN q sg P k (n::ns)=if k∈P then (if q=true then ((preN n++[10])::[sg]::(dueN q sg P (k+1) ns).1,(dueN q sg P (k+1) ns).2) else ([preN n++[10]],(dueN q sg P (k+1) ns).1::(dueN q sg P (k+1) ns).2))
   else (n::(dueN q sg P (k+1) ns).1,(dueN q sg P (k+1) ns).2):=rfl
theorem pgN_cons:pgN q sg P k (n::ns)=if k∈P then preTx q n++bsT q++[10,sg]++pgN q sg P (k+1) ns else preTx q n++enc q (lastN n)++pgN q sg P (k+1) ns:=rfl
end
noncomputable def itx (ps:List (Bool×Nat)):LN:=ps.flatMap fun p=>if p.1=true then [92,p.2] else [p.2]
theorem itx_app (a b:List (Bool×Nat)):itx (a++b)=itx a++itx b:=by simp [itx]
noncomputable def ten (ps:List (Bool×Nat)):Nat:=ps.countP fun p=>p.2==10
def ends10 (ns:List LN):Nat:=ns.countP fun n=>lastN n==10
noncomputable def cntP (P:LN):Nat->List LN->Nat
 | _,[]=>0
 | k,_::ns=>(if k∈P then 1 else 0)+cntP P (k+1) ns
theorem cntP_cons (P:LN) (k:Nat) (n:LN) (ns:List LN):cntP P k (n::ns)=(if k∈P then 1 else 0)+cntP P (k+1) ns:=rfl
theorem ends10_cons (n:LN) (ns:List LN):ends10 (n::ns)=ends10 ns+if (lastN n==10)=true then 1 else 0:=List.countP_cons
noncomputable def PSg (sg:Nat) (P:LN):Nat->List LN->Prop
 | _,[]=>True
 | k,n::ns=>(k∈P->lastN n=sg)/\PSg sg P (k+1) ns
theorem cntP_congr:∀(ns:List LN) (P P':LN) (k:Nat),(∀j,k<=j->(j∈P↔j∈P'))->cntP P k ns=cntP P' k ns
 | [],_,_,_,_=>rfl
 | n::ns,P,P',k,h=>by
  unfold cntP
  rw [cntP_congr ns P P' (k+1) fun j hj=>h j (by lia)]
  have e:=h k (Nat.le_refl _)
  simp only [e]
theorem PSg_congr (sg:Nat):∀(ns:List LN) (P P':LN) (k:Nat),(∀j,k<=j->(j∈P↔j∈P'))->PSg sg P k ns->PSg sg P' k ns
 | [],_,_,_,_,_=>trivial
 | n::ns,P,P',k,h,hp=>⟨fun hk=>hp.1 ((h k (Nat.le_refl _)).mpr hk),PSg_congr sg ns P P' (k+1) (fun j hj=>h j (by lia)) hp.2⟩
theorem pt_facts (q:Bool) (sg wd:Nat):∀(ns:List LN) (a k f:Nat) (ss:LN),cntP (pt wd f ss (bkP q sg a k ns)) k ns=(pt wd f ss (bkP q sg a k ns)).length/\PSg sg (pt wd f ss (bkP q sg a k ns)) k ns
 | [],a,k,f,ss=>by cases ss <;>exact ⟨rfl,trivial⟩
 | n::ns,a,k,f,ss=>by
  unfold bkP
  have ge:∀(f:Nat) (ss:LN) j,j∈pt wd f ss (bkP q sg (lastN n) (k+1) ns)->k+1<=j:=fun f ss j hj=>bkP_ge q sg ns (lastN n) (k+1) j (pt_mem wd ss f _ j hj)
  have skip:∀f ss,cntP (pt wd f ss (bkP q sg (lastN n) (k+1) ns)) k (n::ns)=(pt wd f ss (bkP q sg (lastN n) (k+1) ns)).length/\PSg sg (pt wd f ss (bkP q sg (lastN n) (k+1) ns)) k (n::ns):=fun f ss=>by
   have IH:=pt_facts q sg wd ns (lastN n) (k+1) f ss
   have hk:k∉pt wd f ss (bkP q sg (lastN n) (k+1) ns):=fun hm=>by have:=ge f ss k hm;lia
   refine ⟨?_,fun hm=>absurd hm hk,IH.2⟩
   unfold cntP
   rw [if_neg hk,IH.1];lia
  by_cases hp:place q sg a n=true
  ·rw [if_pos hp]
   cases ss with
   | nil=>
    have:∀ns (k:Nat),cntP [] k ns=0:=by
     intro ns;induction ns with
     | nil=>intro _;rfl
     | cons n ns ih=>intro k;unfold cntP;rw [ih];simp
    have p2:∀ns (k:Nat),PSg sg [] k ns:=by
     intro ns;induction ns with
     | nil=>intro _;trivial
     | cons n ns ih=>intro k;exact ⟨fun h=>(nomatch h),ih _⟩
    exact ⟨this _ _,p2 _ _⟩
   | cons s ss=>
    unfold pt
    by_cases hc:f+s>wd
    ·rw [if_pos hc]
     have IH:=pt_facts q sg wd ns (lastN n) (k+1) s ss
     have eq:∀j,k+1<=j->(j∈pt wd s ss (bkP q sg (lastN n) (k+1) ns)↔j∈k::pt wd s ss (bkP q sg (lastN n) (k+1) ns)):=fun j hj=>⟨fun h=>.tail _ h,fun h=>by
      rcases iC h with rfl | h
      ·lia
      ·exact h⟩
     refine ⟨?_,fun _=>place_last hp,PSg_congr sg ns _ _ (k+1) eq IH.2⟩
     unfold cntP
     rw [if_pos (.head _),←cntP_congr ns _ _ (k+1) eq,IH.1,List.length_cons];lia
    ·rw [if_neg hc]
     exact skip _ _
  ·rw [if_neg hp]
   exact skip f ss
noncomputable def itemsQ (sg:Nat) (P:LN):Nat->List LN->List (Bool×Nat)
 | _,[]=>[]
 | k,n::ns=>((preN n).map fun f=>(f==28,f+64))++(if k∈P then [(false,10),(false,sg)] else [(lastN n==34,lastN n)])++itemsQ sg P (k+1) ns
theorem encQ_pre (f:Nat):encQ (f+64)=if (f==28)=true then [92,f+64] else [f+64]:=by
 unfold encQ
 by_cases h:f=28
 ·subst h;rfl
 ·rw [if_neg (by lia),if_neg (by simpa using h)]
theorem encQ_last {e:Nat} (h:e<64):encQ e=if (e==34)=true then [92,e] else [e]:=by
 unfold encQ
 by_cases h1:e=34
 ·subst h1;rfl
 ·rw [if_neg (by lia),if_neg (by simpa using h1)]
theorem preN_snoc (n:LN) (e:Nat):preN (n++[e])=n:=by simp [preN]
theorem lastN_snoc (n:LN) (e:Nat):lastN (n++[e])=e:=by simp [lastN]
theorem signs_cons (n:LN) (ns:List LN):signs (n::ns)=vcode n++signs ns:=rfl
theorem vcode_snoc (n:LN) (e:Nat):vcode (n++[e])=n.map (· +64)++[e]:=by
 rw [vcode_eq (by simp),preN_snoc,lastN_snoc]
theorem lastN_lt {n:LN} (h:NGood n):lastN n<64:=h.2 _ (by rw [num_eq h.1];simp [lastN])
theorem ten_app (a b:List (Bool×Nat)):ten (a++b)=ten a+ten b:=List.countP_append
noncomputable def QuotP (sg:Nat) (P:LN) (ns:List LN) (k:Nat):Prop:=(∀n∈ns,NGood n)->PSg sg P k ns->
  pgN true sg P k ns=itx (itemsQ sg P k ns)++[34]/\(itemsQ sg P k ns).map (·.2)=signs (dueN true sg P k ns).1/\(dueN true sg P k ns).2=[]/\(∀p∈itemsQ sg P k ns,p.1=false->p.2≠34/\p.2≠92)/\ten (itemsQ sg P k ns)=cntP P k ns+ends10 ns
theorem quoted_items (sg:Nat) (P:LN) (hsg:sg=32\/sg=9):∀(ns:List LN) (k:Nat),QuotP sg P ns k
 | [],k=>fun _ _=>⟨rfl,rfl,rfl,fun _ h=>(nomatch h),rfl⟩
 | n::ns,k=>fun h hp=>by
  have hn:=h n (.head _)
  obtain ⟨i1,i2,i3,i4,i5⟩:=quoted_items sg P hsg ns (k+1) (fun m hm=>h m (.tail _ hm)) hp.2
  have hl:=lastN_lt hn
  have hpre:∀f∈preN n,f<64:=fun f hf=>hn.2 f ((List.dropLast_sublist n).subset hf)
  have ePre:preTx true n=itx ((preN n).map fun f=>(f==28,f+64)):=by
   unfold preTx itx
   rw [List.flatMap_map]
   congr 1
   funext f
   exact encQ_pre f
  have tPre:ten ((preN n).map fun f=>(f==28,f+64))=0:=by
   unfold ten
   rw [List.countP_map,List.countP_eq_zero]
   intro f _
   simp
  have mPre:((preN n).map fun f=>(f==28,f+64)).map (·.2)=(preN n).map (· +64):=by
   rw [List.map_map];rfl
  have qPre:∀p∈(preN n).map (fun f=>(f==28,f+64)),p.1=false->p.2≠34/\p.2≠92:=fun p hp h0=>by
   obtain ⟨f,hf,rfl⟩:=List.mem_map.mp hp
   have:f≠28:=by simpa using h0
   show f+64≠34/\f+64≠92
   lia
  rw [pgN_cons,dueN_cons]
  unfold itemsQ
  by_cases hk:k∈P
  ·have hls:=hp.1 hk
   have h10:lastN n≠10:=by rcases hsg with e | e <;>lia
   simp only [if_pos hk,if_true]
   refine ⟨?_,?_,i3,?_,?_⟩
   ·rw [i1,itx_app,itx_app,ePre];simp [bsT,itx]
   ·rw [List.map_append,List.map_append,mPre,i2,signs_cons,signs_cons,vcode_snoc];simp [vcode]
   ·intro p hp
    rcases iA hp with hp | hp
    ·rcases iA hp with hp | hp
     ·exact qPre p hp
     ·intro _
      simp at hp
      rcases hp with rfl | rfl
      ·exact ⟨by decide,by decide⟩
      ·rcases hsg with rfl | rfl <;>exact ⟨by decide,by decide⟩
    ·exact i4 p hp
   ·rw [ten_app,ten_app,tPre,i5]
    rw [cntP_cons,ends10_cons,if_pos hk,if_neg (by simpa using h10)]
    have:ten [(false,10),(false,sg)]=1:=by rcases hsg with rfl | rfl <;>rfl
    lia
  ·simp only [if_neg hk]
   refine ⟨?_,?_,i3,?_,?_⟩
   ·have e:enc true (lastN n)=itx [(lastN n==34,lastN n)]:=by
     show encQ (lastN n)=_
     rw [encQ_last hl];simp [itx]
    rw [i1,itx_app,itx_app,ePre,e];simp
   ·rw [List.map_append,List.map_append,mPre,i2,signs_cons,vcode_eq hn.1];rfl
   ·intro p hp
    rcases iA hp with hp | hp
    ·rcases iA hp with hp | hp
     ·exact qPre p hp
     ·intro h0
      simp at hp
      subst hp
      have:lastN n≠34:=by simpa using h0
      exact ⟨this,by show lastN n≠92;lia⟩
    ·exact i4 p hp
   ·rw [ten_app,ten_app,tPre,i5]
    rw [cntP_cons,ends10_cons,if_neg hk]
    have:ten [(lastN n==34,lastN n)]=if lastN n==10 then 1 else 0:=by
     unfold ten;simp [List.countP_cons]
    rw [this]
    lia
noncomputable def itb (l:LN):LN:=l.flatMap fun c=>[92,c]
def chainB (sg:Nat) (d:LN×List LN):LN:=itb d.1++(d.2.map fun w=>sg::itb w).flatten
theorem itb_app (a b:LN):itb (a++b)=itb a++itb b:=by simp [itb]
noncomputable def ten1 (l:LN):Nat:=l.countP (· ==10)
noncomputable def BareP (sg:Nat) (P:LN) (ns:List LN) (a k:Nat):Prop:=(∀n∈ns,NGood n)->PSg sg P k ns->endNB a ns->
  pgN false sg P k ns=chainB sg (signs (dueN false sg P k ns).1,(dueN false sg P k ns).2.map signs)/\(ns≠[]->signs (dueN false sg P k ns).1≠[])/\(∀w∈(dueN false sg P k ns).2,signs w≠[])/\(dueN false sg P k ns).2.length=cntP P k ns/\ten1 (signs (dueN false sg P k ns).1)+(((dueN false sg P k ns).2.map signs).map ten1).sum=cntP P k ns+ends10 ns
theorem bare_words (sg:Nat) (P:LN) (hsg:sg=32\/sg=9):∀(ns:List LN) (a k:Nat),BareP sg P ns a k
 | [],a,k=>fun _ _ _=>⟨rfl,fun h=>absurd rfl h,fun _ h=>(nomatch h),rfl,rfl⟩
 | n::ns,a,k=>fun h hp he=>by
  have hn:=h n (.head _)
  obtain ⟨i1,i2,i3,i4,i5⟩:=bare_words sg P hsg ns (lastN n) (k+1) (fun m hm=>h m (.tail _ hm)) hp.2 he
  have ePre:preTx false n=itb ((preN n).map (· +64)):=by
   unfold preTx itb
   rw [List.flatMap_map];rfl
  have tPre:ten1 ((preN n).map (· +64))=0:=by
   unfold ten1
   rw [List.countP_map,List.countP_eq_zero]
   intro f _
   simp
  rw [pgN_cons,dueN_cons]
  by_cases hk:k∈P
  ·have hls:=hp.1 hk
   have h10:lastN n≠10:=by rcases hsg with e | e <;>lia
   have hns:ns≠[]:=by
    rintro rfl
    have hb:blank (lastN n)=false:=he
    rw [hls] at hb
    rcases hsg with rfl | rfl <;>cases hb
   simp only [if_pos hk,Bool.false_eq_true,if_false]
   have es:signs [preN n++[10]]=(preN n).map (· +64)++[10]:=by
    rw [signs_cons,vcode_snoc];simp [signs]
   refine ⟨?_,fun _=>by rw [es];simp,?_,?_,?_⟩
   ·rw [i1]
    unfold chainB
    simp only [List.map_cons,List.flatten_cons]
    rw [es,itb_app,ePre];simp [bsT,itb]
   ·intro w hw
    rcases iC hw with rfl | hw
    ·exact i2 hns
    ·exact i3 w hw
   ·rw [List.length_cons,i4];rw [cntP_cons,if_pos hk];lia
   ·rw [es]
    simp only [List.map_cons,List.sum_cons]
    rw [cntP_cons,ends10_cons,if_pos hk,if_neg (by simpa using h10)]
    have:ten1 ((preN n).map (· +64)++[10])=1:=by
     unfold ten1 at tPre ⊢
     rw [List.countP_append,tPre];rfl
    lia
  ·simp only [if_neg hk]
   have es:∀r,signs (n::r)=(preN n).map (· +64)++[lastN n]++signs r:=fun r=>by
    rw [signs_cons,vcode_eq hn.1]
   refine ⟨?_,fun _=>by rw [es];simp,i3,?_,?_⟩
   ·rw [i1]
    unfold chainB
    simp only
    rw [es,itb_app,itb_app,ePre];simp [enc,itb]
   ·rw [i4];rw [cntP_cons,if_neg hk];lia
   ·rw [es]
    rw [cntP_cons,ends10_cons,if_neg hk]
    have:ten1 ((preN n).map (· +64)++[lastN n]++signs (dueN false sg P (k+1) ns).1)=(if lastN n==10 then 1 else 0)+ten1 (signs (dueN false sg P (k+1) ns).1):=by
     unfold ten1 at tPre ⊢
     rw [List.countP_append,List.countP_append,tPre];simp [List.countP_cons]
    rw [this]
    lia
noncomputable def othL:LN:=[32,9,34,28,10,13,0,63]
noncomputable def endL:LN:=[32,9,32,9,34,10,13,28]
def oth (i:Nat):Nat:=othL.getD i 0
def fin8 (i:Nat):Nat:=endL.getD i 0
def drawn1 (x:Nat):LN:=(List.range (x%3)).map (fun k=>oth (x/24/8^k%8))++[fin8 (x/3%8)]
def drawnAll (cs:LN):List LN:=cs.map drawn1++[[63]]
def NG3 (n:LN):Prop:=NGood n/\n.length<=3
theorem oth_lt {i:Nat}:oth i<64:=by
 unfold oth othL
 match i with
 | 0 | 1 | 2 | 3 | 4 | 5 | 6 | 7=>decide
 | i+8=>exact Nat.zero_lt_succ _
theorem fin8_lt {i:Nat}:fin8 i<64:=by
 unfold fin8 endL
 match i with
 | 0 | 1 | 2 | 3 | 4 | 5 | 6 | 7=>decide
 | i+8=>exact Nat.zero_lt_succ _
theorem drawn1_ok (x:Nat):NG3 (drawn1 x):=by
 refine ⟨⟨by simp [drawn1],fun f hf=>?_⟩,by simp [drawn1];lia⟩
 rcases iA hf with hf | hf
 ·obtain ⟨k,_,rfl⟩:=List.mem_map.mp hf
  exact oth_lt
 ·simp at hf;subst hf;exact fin8_lt
theorem drawnAll_ok (cs:LN):∀n∈drawnAll cs,NG3 n:=fun n hn=>by
 rcases iA hn with hn | hn
 ·obtain ⟨x,_,rfl⟩:=List.mem_map.mp hn
  exact drawn1_ok x
 ·simp at hn;subst hn
  exact ⟨⟨by simp,by simp⟩,by simp⟩
theorem drawnAll_end (cs:LN):∀a,endNB a (drawnAll cs):=by
 unfold drawnAll
 induction cs with
 | nil=>intro a;rfl
 | cons x cs ih=>intro a;exact ih _
theorem due_ok (q:Bool) (sg:Nat) (P:LN) (hsg:sg=32\/sg=9):∀(ns:List LN) (k:Nat),(∀n∈ns,NG3 n)->(∀n∈(dueN q sg P k ns).1,NG3 n)/\∀w∈(dueN q sg P k ns).2,∀n∈w,NG3 n
 | [],_,_=>⟨fun _ h=>(nomatch h),fun _ h=>(nomatch h)⟩
 | n::ns,k,h=>by
  have hn:=h n (.head _)
  obtain ⟨i1,i2⟩:=due_ok q sg P hsg ns (k+1) fun m hm=>h m (.tail _ hm)
  have h10:NG3 (preN n++[10]):=by
   refine ⟨⟨by simp,fun f hf=>?_⟩,?_⟩
   ·rcases iA hf with hf | hf
    ·exact hn.1.2 f ((List.dropLast_sublist n).subset hf)
    ·simp at hf;lia
   ·have:=hn.2
    have hp:0<n.length:=List.length_pos_iff.mpr hn.1.1
    simp only [preN,List.length_append,List.length_dropLast,List.length_cons,List.length_nil]
    lia
  have hs:NG3 [sg]:=⟨⟨by simp,fun f hf=>by simp at hf;subst hf;rcases hsg with rfl | rfl <;>decide⟩,by simp⟩
  rw [dueN_cons]
  by_cases hk:k∈P
  ·rw [if_pos hk]
   cases q with
   | true=>
    rw [if_pos rfl]
    refine ⟨fun m hm=>?_,i2⟩
    rcases iC hm with rfl | hm
    ·exact h10
    ·rcases iC hm with rfl | hm
     ·exact hs
     ·exact i1 m hm
   | false=>
    rw [if_neg (by simp)]
    refine ⟨fun m hm=>?_,fun w hw=>?_⟩
    ·simp at hm;subst hm;exact h10
    ·rcases iC hw with rfl | hw
     ·exact i1
     ·exact i2 w hw
  ·rw [if_neg hk]
   refine ⟨fun m hm=>?_,i2⟩
   rcases iC hm with rfl | hm
   ·exact hn
   ·exact i1 m hm
theorem vcode_lt {n:LN} (h:NGood n):(∀c∈vcode n,c<128)/\(vcode n).length=n.length:=by
 refine ⟨fun c hc=>?_,?_⟩
 ·rw [vcode_eq h.1] at hc
  rcases iA hc with hc | hc
  ·obtain ⟨f,hf,rfl⟩:=List.mem_map.mp hc
   have:=h.2 f ((List.dropLast_sublist n).subset hf);lia
  ·simp at hc;subst hc;have:=lastN_lt h;lia
 ·rw [vcode_eq h.1];conv=>rhs;rw [num_eq h.1]
  simp
theorem signs_lt {ns:List LN} (h:∀n∈ns,NG3 n):(∀c∈signs ns,c<128)/\ns.length<=(signs ns).length/\(signs ns).length<=3*ns.length:=by
 induction ns with
 | nil=>exact ⟨fun _ h=>(nomatch h),Nat.le_refl _,Nat.le_refl _⟩
 | cons n ns ih=>
  obtain ⟨i1,i2,i3⟩:=ih fun m hm=>h m (.tail _ hm)
  obtain ⟨v1,v2⟩:=vcode_lt (h n (.head _)).1
  have h3:=(h n (.head _)).2
  have h0:0<n.length:=List.length_pos_iff.mpr (h n (.head _)).1.1
  rw [signs_cons]
  refine ⟨fun c hc=>?_,?_,?_⟩
  ·rcases iA hc with hc | hc
   ·exact v1 c hc
   ·exact i1 c hc
  ·simp;lia
  ·simp;lia
theorem due_len (q:Bool) (sg:Nat) (P:LN):∀(ns:List LN) (k:Nat),(dueN q sg P k ns).1.length<=2*ns.length/\(∀w∈(dueN q sg P k ns).2,w.length<=2*ns.length)/\(dueN q sg P k ns).2.length<=ns.length
 | [],_=>⟨Nat.le_refl _,fun _ h=>(nomatch h),Nat.le_refl _⟩
 | n::ns,k=>by
  obtain ⟨i1,i2,i3⟩:=due_len q sg P ns (k+1)
  rw [dueN_cons]
  by_cases hk:k∈P
  ·rw [if_pos hk]
   cases q with
   | true=>
    rw [if_pos rfl]
    refine ⟨?_,fun w hw=>?_,?_⟩
    ·simp;lia
    ·have:=i2 w hw;simp;lia
    ·simp;exact .step ‹_›
   | false=>
    rw [if_neg (by simp)]
    refine ⟨?_,fun w hw=>?_,?_⟩
    ·simp;lia
    ·rcases iC hw with rfl | hw
     ·simp;lia
     ·have:=i2 w hw;simp;lia
    ·simp;lia
  ·rw [if_neg hk]
   refine ⟨?_,fun w hw=>?_,?_⟩
   ·simp;lia
   ·have:=i2 w hw;simp;lia
   ·simp;exact .step ‹_›
theorem txT_len (q:Bool) {ns:List LN} (h:∀n∈ns,NG3 n):(txT q ns).length<=6*ns.length+2:=by
 have h1:=(signs_lt h).2.2
 have h2:((signs ns).flatMap (enc q)).length<=2*(signs ns).length:=by
  generalize signs ns=l
  induction l with
  | nil=>exact Nat.le_refl _
  | cons c l ih=>
   rw [List.flatMap_cons,List.length_append,enc_len,List.length_cons]
   split <;>lia
 have h3:(quoT q).length<=1:=by cases q <;>decide
 unfold txT
 simp only [List.length_append]
 lia
theorem pgN_len (q:Bool) (sg:Nat) (P:LN) (ns:List LN):∀k,(pgN q sg P k ns).length<=((signs ns).flatMap (enc q)).length+3*ns.length+1:=by
 induction ns with
 | nil=>intro k;cases q <;>exact Nat.le_of_ble_eq_true rfl
 | cons n ns ih=>
  intro k
  have:=ih (k+1)
  rw [pgN_cons,signs_cons,List.flatMap_append]
  have hb:(bsT q).length<=1:=by cases q <;>decide
  by_cases hn:n=[]
  ·subst hn
   have h0:preTx q []=[]:=rfl
   have he:(enc q (lastN [])).length<=2:=by rw [enc_len];split <;>decide
   have hv:(vcode []).flatMap (enc q)=[]:=rfl
   rw [h0,hv]
   split <;>simp only [List.length_append,List.length_nil,List.length_cons] <;>lia
  ·rw [vcode_enc hn]
   split <;>simp only [List.length_append,List.length_nil,List.length_cons] <;>lia
theorem fit8 (c:Nat):Builtin.List.listFitsIndex (Int.ofNat (c%8))=true:=fits_nat _ (leT (Nat.le_of_lt (Nat.mod_lt c (Nat.succ_pos 7))) rfl)
theorem oth_get {tb m:Nat} (h:m<8):(othVs tb)[m]? =some (iv (oth m) (tb+9+m)):=by
 match m,h with
 | 0,_ | 1,_ | 2,_ | 3,_ | 4,_ | 5,_ | 6,_ | 7,_=>rfl
theorem end_get {tb m:Nat} (h:m<8):(endVs tb)[m]? =some (iv (fin8 m) (tb+1+m)):=by
 match m,h with
 | 0,_=>rfl
 | 1,_=>rfl
 | 2,_=>rfl
 | 3,_=>rfl
 | 4,_=>rfl
 | 5,_=>rfl
 | 6,_=>rfl
 | 7,_=>rfl
def drPost (r:List (Nat×Nat)):DrX->Prop:=fun x=>x.ns.map Num.val=r.map fun p=>drawn1 p.1
theorem drSub {R:DrR} {vs:LV} {epc:Nat} {p q:Nat×Obj} (h:p=q) (hq:q∈drImm R vs epc):p∈drImm R vs epc:=h▸hq
theorem dr_mem (R:DrR) (vs:LV) (epc:Nat):(R.cl,lst vs epc)∈drImm R vs epc/\(R.eL,lst (endVs R.tb) 0)∈drImm R vs epc/\(R.oL,lst (othVs R.tb) 0)∈drImm R vs epc:=⟨.head _,by simp [drImm],by simp [drImm]⟩
theorem drawn_0 (c:Nat) (h:c%3=0):drawn1 c=[fin8 (c/3%8)]:=by unfold drawn1;rw [h];rfl
theorem drawn_1 (c:Nat) (h:c%3=1):drawn1 c=[oth (c/24/1%8),fin8 (c/3%8)]:=by unfold drawn1;rw [h];rfl
theorem drawn_2 (c:Nat) (h:c%3=2):drawn1 c=[oth (c/24/1%8),oth (c/24/8%8),fin8 (c/3%8)]:=by unfold drawn1;rw [h];rfl
theorem sDr_valid (R:DrR) (epc:Nat) (l:List (Nat×Nat)) (hl:l.length<=1000):∀(r:List (Nat×Nat)) (w:World) (i:Nat) (cv:Option Value) (xs:LV) (ep:Nat),l.drop i=r->xs.length<=1000+i->Vd w (sDr w R (ivs l) epc i cv xs ep (drPost r)):=by
 intro r
 obtain ⟨m1,m2,m3⟩:=dr_mem R (ivs l) epc
 have imm1:∀{p:Nat×Obj} {bag:Led},p∈[(R.cl,lst (ivs l) epc)]->p∈drImm R (ivs l) epc\/p∈bag:=fun h=>.inl (drSub (List.mem_singleton.mp h) m1)
 have imm2:∀{p:Nat×Obj} {bag:Led},p∈[(R.eL,lst (endVs R.tb) 0)]->p∈drImm R (ivs l) epc\/p∈bag:=fun h=>.inl (drSub (List.mem_singleton.mp h) m2)
 have imm3:∀{p:Nat×Obj} {bag:Led},p∈[(R.oL,lst (othVs R.tb) 0)]->p∈drImm R (ivs l) epc\/p∈bag:=fun h=>.inl (drSub (List.mem_singleton.mp h) m3)
 have m8:∀x,x%8<8:=fun x=>Nat.mod_lt _ (by decide)
 induction r with
 | nil=>
  intro w i cv xs ep hr hx
  have hi:(ivs l).length<=i:=by
   have:l.length<=i:=List.drop_eq_nil_iff.mp hr
   simpa [ivs] using this
  revert w
  refine vRowR (drImm R (ivs l) epc) (fun w=>(fun p hp=>hp)) ?_ ?_
  ·exact fun w s N0 t0 G_ D_ I_=>
    .ui 0x10180001800 (sItEI R.it R.cl i (Value.type "list") none (ivs l) epc) [0] [] (sItEI_valid hi) (inW D_ (fun p hp=>imm1 hp)) tt fun x1 N1 t1=>
    dn D_ 0x1007 ((.ok .next)) [(0,R.it,iterE i),(3,R.acc,lst xs ep),(6,R.cx,cellV cv),(9,R.d,dictO w [] 0)] [] [] fun s' O=>⟨(⟨[],ep,i,cv⟩:DrX),rfl,rfl,rfl,by have:=O.noGi;rw [←List.append_nil xs] at this;exact this⟩
  kernel_rfl
 | cons p r ih=>
  intro w i cv xs ep hr hx
  obtain ⟨c,t⟩:=p
  obtain ⟨hg,hdr⟩:=drop_get hr
  have hi:i<l.length:=(List.getElem?_eq_some_iff.mp hg).1
  have hc:(ivs l)[i]? =some (iv c t):=ivs_get hg
  have fin:∀(x6:Nat) (fs:List (Nat×Nat)) (x8:DrX) (s s':Shared) (w:World),fs.map (·.1)=drawn1 c->x8.ns.map Num.val=r.map (fun p=>drawn1 p.1)->
    (∀bag,Out s s' ((sDr w R (ivs l) epc i cv xs ep (drPost ((c,t)::r))).need.map (·.1)) (rezip (sDr w R (ivs l) epc i cv xs ep (drPost ((c,t)::r))).need [iterE x8.i,lst ((xs++[.ref x6])++numVs x8.ns) x8.ep,cellV x8.cv,dictO w [] 0]) [] bag->(x6,lst (ivs fs) 0)∈bag->(∀q∈numLed x8.ns,q∈bag)->
    Post (sDr w R (ivs l) epc i cv xs ep (drPost ((c,t)::r))) s (.ok .next) s'):=fun x6 fs x8 s s' w h1 h2 bag O b1 b2=>by
   refine ⟨⟨⟨x6,0,fs⟩::x8.ns,x8.ep,x8.i,x8.cv⟩,?_,rfl,rfl,?_⟩
   ·show Num.val ⟨x6,0,fs⟩::x8.ns.map Num.val=_
    rw [h2]
    show fs.map (·.1)::_=_
    rw [h1];rfl
   ·rw [List.append_assoc] at O
    refine O.sub fun q hq=>?_
    rcases iC hq with rfl | hq
    ·exact b1
    ·exact b2 q hq
  have h3:=mod3 c
  rcases h3 with h3 | h3 | h3
  ·
   revert w
   refine vRow2 (drImm R (ivs l) epc) (fun w=>(fun p hp=>hp)) ?_ ?_
   ·exact fun cc w s N0 t0 G_ D_ I_=>
     psItNI 0x10180001800 R.it R.cl i (Value.type "list") none (ivs l) epc (iv c t) hc [0] [] (inW D_ (fun p hp=>imm1 hp)) fun x1 N1 t1=>
     piMod 0x10000c000000300c c t 3 (t1+0) 0 (by decide) h3 [] fun x2 N2 t2=>
     piDiv (cond cc 0x400032010441702c0b02c0002c0002c000000b020080200002000020080200002000020080000000000 0x400032010441702c0b02c0002c0002c0002c0002c0002c0b0000b020080200002000020080200002000020080000000000) c t 3 (t2+2) (c/3) (by decide) (by decide) rfl [8] fun x3 N3 t3=>
     piMod 0x400 (c/3) x3 8 (t3+0) (c/3%8) (by decide) rfl [1] fun x4 N4 t4=>
     .ui 0x6030020380e03 (sGetIntI R.eL (endVs R.tb) 0 (Int.ofNat (c/3%8)) x4 (iv (fin8 (c/3%8)) (R.tb+1+c/3%8))) [] [1] (sGetIntI_valid _ (seq_ix (m8 _)) (end_get (m8 _)) (fit8 _)) (inW D_ (fun p hp=>imm2 hp)) tt fun x5 N5 t5=>
     .u 0x4070000702007 (sConcat (N2+2) [] 0 N5 [iv (fin8 (c/3%8)) (R.tb+1+c/3%8)] 0) [1,2] [] (sConcat_valid (by simp)) tt fun x6 N6 t6=>
     psAppend 0x102400 (Value.type "list") none R.acc xs ep (Value.ref x6) (by lia) [3] [1] fun x7 N7 t7=>
     .use 0x1 (sDr w R (ivs l) epc (i+1) (some (iv c t)) (xs++[Value.ref x6]) x7 ((fun _ _=>drPost r) x6 x7)) [0,3,6,9] [] [(1,x6,lst [iv (fin8 (c/3%8)) (R.tb+1+c/3%8)] 0)] (ih _ _ _ _ _ hdr (la (by lia))) (inJ I_) fun x8 N8 t8 h8=>
     dn D_ 0x4 ((.ok .next)) [(0,R.it,iterE x8.i),(3,R.acc,lst ((xs++[Value.ref x6])++numVs x8.ns) x8.ep),(6,R.cx,cellV x8.cv),(9,R.d,dictO w [] 0)] [] [] fun s' O=>fin x6 [(fin8 (c/3%8),R.tb+1+c/3%8)] x8 s s' _ (by rw [drawn_0 c h3];rfl) h8 _ O (iL (iL (iR (.head _)))) (fun q hq=>iL (iR hq))
   kernel_rfl
  ·
   revert w
   refine vRow2 (drImm R (ivs l) epc) (fun w=>(fun p hp=>hp)) ?_ ?_
   ·exact fun cc w s N0 t0 G_ D_ I_=>
     psItNI 0x10180001800 R.it R.cl i (Value.type "list") none (ivs l) epc (iv c t) hc [0] [] (inW D_ (fun p hp=>imm1 hp)) fun x1 N1 t1=>
     piMod 0x10000c000000300c c t 3 (t1+0) 1 (by decide) h3 [] fun x2 N2 t2=>
     piDiv (cond cc 0x400032020441102c0b02c0b02c0b02c0002c0002c000000b020080200002000020080200002000020080000000000 0x400032020441102c0b02c0b02c0b02c0002c0002c0002c0002c0002c0b0000b020080200002000020080200002000020080000000000) c t 24 (t2+4) (c/24) (by decide) (by decide) rfl [5,8,11] fun x3 N3 t3=>
     .u 0x10000d (sT "int.__pow__" [iv 8 (t3+0),iv 0 (t2+2)] (iv 1)) [] [1,4,7] (iPow8_valid (by decide) rfl) tt fun x4 N4 t4=>
     piDiv 0x400 (c/24) x3 1 x4 (c/24/1) (by decide) (by decide) rfl [1,4,7] fun x5 N5 t5=>
     piMod 0x400 (c/24/1) x5 8 (t5+0) (c/24/1%8) (by decide) rfl [1,4,7] fun x6 N6 t6=>
     .ui 0x6040020481204 (sGetIntI R.oL (othVs R.tb) 0 (Int.ofNat (c/24/1%8)) x6 (iv (oth (c/24/1%8)) (R.tb+9+c/24/1%8))) [] [1,4,7] (sGetIntI_valid _ (seq_ix (m8 _)) (oth_get (m8 _)) (fit8 _)) (inW D_ (fun p hp=>imm3 hp)) tt fun x7 N7 t7=>
     psAppend 0x102800 (Value.type "list") none (N2+2) [] 0 (iv (oth (c/24/1%8)) (R.tb+9+c/24/1%8)) (by simp) [4] [1,4,7] fun x8 N8 t8=>
     piDiv 0x400032010340d0340b01c0701c0001c0001c00 c t 3 (t8+0) (c/3) (by decide) (by decide) rfl [4] fun x9 N9 t9=>
     piMod 0x400 (c/3) x9 8 (t9+0) (c/3%8) (by decide) rfl [1] fun x10 N10 t10=>
     .ui 0x6030020380e03 (sGetIntI R.eL (endVs R.tb) 0 (Int.ofNat (c/3%8)) x10 (iv (fin8 (c/3%8)) (R.tb+1+c/3%8))) [] [1] (sGetIntI_valid _ (seq_ix (m8 _)) (end_get (m8 _)) (fit8 _)) (inW D_ (fun p hp=>imm2 hp)) tt fun x11 N11 t11=>
     .u 0x4070000702007 (sConcat (N2+2) [iv (oth (c/24/1%8)) (R.tb+9+c/24/1%8)] x8 N11 [iv (fin8 (c/3%8)) (R.tb+1+c/3%8)] 0) [1,2] [] (sConcat_valid (by simp)) tt fun x12 N12 t12=>
     psAppend 0x102400 (Value.type "list") none R.acc xs ep (Value.ref x12) (by lia) [3] [1] fun x13 N13 t13=>
     .use 0x1 (sDr w R (ivs l) epc (i+1) (some (iv c t)) (xs++[Value.ref x12]) x13 ((fun _ _=>drPost r) x12 x13)) [0,3,6,9] [] [(1,x12,lst [iv (oth (c/24/1%8)) (R.tb+9+c/24/1%8),iv (fin8 (c/3%8)) (R.tb+1+c/3%8)] 0)] (ih _ _ _ _ _ hdr (la (by lia))) (inJ I_) fun x14 N14 t14 h8=>
     dn D_ 0x4 ((.ok .next)) [(0,R.it,iterE x14.i),(3,R.acc,lst ((xs++[Value.ref x12])++numVs x14.ns) x14.ep),(6,R.cx,cellV x14.cv),(9,R.d,dictO w [] 0)] [] [] fun s' O=>fin x12 [(oth (c/24/1%8),R.tb+9+c/24/1%8),(fin8 (c/3%8),R.tb+1+c/3%8)] x14 s s' _ (by rw [drawn_1 c h3];rfl) h8 _ O (iL (iL (iR (.head _)))) (fun q hq=>iL (iR hq))
   kernel_rfl
  ·
   revert w
   refine vRow2 (drImm R (ivs l) epc) (fun w=>(fun p hp=>hp)) ?_ ?_
   ·exact fun cc w s N0 t0 G_ D_ I_=>
     psItNI 0x10180001800 R.it R.cl i (Value.type "list") none (ivs l) epc (iv c t) hc [0] [] (inW D_ (fun p hp=>imm1 hp)) fun x1 N1 t1=>
     piMod 0x10000c000000300c c t 3 (t1+0) 2 (by decide) h3 [] fun x2 N2 t2=>
     piDiv (cond cc 0x400032020441102c0b02c0b02c0b02c0002c0002c000000b020080200002000020080200002000020080000000000 0x400032020441102c0b02c0b02c0b02c0002c0002c0002c0002c0002c0b0000b020080200002000020080200002000020080000000000) c t 24 (t2+4) (c/24) (by decide) (by decide) rfl [5,8,11] fun x3 N3 t3=>
     .u 0x10000d (sT "int.__pow__" [iv 8 (t3+0),iv 0 (t2+2)] (iv 1)) [] [1,4,7] (iPow8_valid (by decide) rfl) tt fun x4 N4 t4=>
     piDiv 0x400 (c/24) x3 1 x4 (c/24/1) (by decide) (by decide) rfl [1,4,7] fun x5 N5 t5=>
     piMod 0x400 (c/24/1) x5 8 (t5+0) (c/24/1%8) (by decide) rfl [1,4,7] fun x6 N6 t6=>
     .ui 0x6040020481204 (sGetIntI R.oL (othVs R.tb) 0 (Int.ofNat (c/24/1%8)) x6 (iv (oth (c/24/1%8)) (R.tb+9+c/24/1%8))) [] [1,4,7] (sGetIntI_valid _ (seq_ix (m8 _)) (oth_get (m8 _)) (fit8 _)) (inW D_ (fun p hp=>imm3 hp)) tt fun x7 N7 t7=>
     psAppend 0x102800 (Value.type "list") none (N2+2) [] 0 (iv (oth (c/24/1%8)) (R.tb+9+c/24/1%8)) (by simp) [4] [1,4,7] fun x8 N8 t8=>
     piDiv 0x400032020340d01c0701c0701c0701c0001c0001c00 c t 24 (t8+2) (c/24) (by decide) (by decide) rfl [1,4,7] fun x9 N9 t9=>
     .u 0x10000d (sT "int.__pow__" [iv 8 (t9+0),iv 1 (t8+0)] (iv 8)) [] [1,4,7] (iPow8_valid (by decide) rfl) tt fun x10 N10 t10=>
     piDiv 0x400 (c/24) x9 8 x10 (c/24/8) (by decide) (by decide) rfl [1,4,7] fun x11 N11 t11=>
     piMod 0x400 (c/24/8) x11 8 (t11+0) (c/24/8%8) (by decide) rfl [1,4,7] fun x12 N12 t12=>
     .ui 0x6040020481204 (sGetIntI R.oL (othVs R.tb) 0 (Int.ofNat (c/24/8%8)) x12 (iv (oth (c/24/8%8)) (R.tb+9+c/24/8%8))) [] [1,4,7] (sGetIntI_valid _ (seq_ix (m8 _)) (oth_get (m8 _)) (fit8 _)) (inW D_ (fun p hp=>imm3 hp)) tt fun x13 N13 t13=>
     psAppend 0x102800 (Value.type "list") none (N2+2) [iv (oth (c/24/1%8)) (R.tb+9+c/24/1%8)] x8 (iv (oth (c/24/8%8)) (R.tb+9+c/24/8%8)) (by simp) [4] [1,4,7] fun x14 N14 t14=>
     piDiv 0x400032010340d0340b01c0701c0001c0001c00 c t 3 (t14+0) (c/3) (by decide) (by decide) rfl [4] fun x15 N15 t15=>
     piMod 0x400 (c/3) x15 8 (t15+0) (c/3%8) (by decide) rfl [1] fun x16 N16 t16=>
     .ui 0x6030020380e03 (sGetIntI R.eL (endVs R.tb) 0 (Int.ofNat (c/3%8)) x16 (iv (fin8 (c/3%8)) (R.tb+1+c/3%8))) [] [1] (sGetIntI_valid _ (seq_ix (m8 _)) (end_get (m8 _)) (fit8 _)) (inW D_ (fun p hp=>imm2 hp)) tt fun x17 N17 t17=>
     .u 0x4070000702007 (sConcat (N2+2) [iv (oth (c/24/1%8)) (R.tb+9+c/24/1%8),iv (oth (c/24/8%8)) (R.tb+9+c/24/8%8)] x14 N17 [iv (fin8 (c/3%8)) (R.tb+1+c/3%8)] 0) [1,2] [] (sConcat_valid (by simp)) tt fun x18 N18 t18=>
     psAppend 0x102400 (Value.type "list") none R.acc xs ep (Value.ref x18) (by lia) [3] [1] fun x19 N19 t19=>
     .use 0x1 (sDr w R (ivs l) epc (i+1) (some (iv c t)) (xs++[Value.ref x18]) x19 ((fun _ _=>drPost r) x18 x19)) [0,3,6,9] [] [(1,x18,lst [iv (oth (c/24/1%8)) (R.tb+9+c/24/1%8),iv (oth (c/24/8%8)) (R.tb+9+c/24/8%8),iv (fin8 (c/3%8)) (R.tb+1+c/3%8)] 0)] (ih _ _ _ _ _ hdr (la (by lia))) (inJ I_) fun x20 N20 t20 h8=>
     dn D_ 0x4 ((.ok .next)) [(0,R.it,iterE x20.i),(3,R.acc,lst ((xs++[Value.ref x18])++numVs x20.ns) x20.ep),(6,R.cx,cellV x20.cv),(9,R.d,dictO w [] 0)] [] [] fun s' O=>fin x18 [(oth (c/24/1%8),R.tb+9+c/24/1%8),(oth (c/24/8%8),R.tb+9+c/24/8%8),(fin8 (c/3%8),R.tb+1+c/3%8)] x20 s s' _ (by rw [drawn_2 c h3];rfl) h8 _ O (iL (iL (iR (.head _)))) (fun q hq=>iL (iR hq))
   kernel_rfl
structure DwX where
 a:Nat
 ns:List Num
 n:Nat
 t:Nat
def sDrawn (c:Nat) (vs:LV) (ep:Nat) (post:DwX->Prop):Summ where
 code:=.call (.ref 265) ⟨[.ref c],[]⟩
 imm:=[(c,lst vs ep)]
 Res:=DwX
 post:=post
 res:=fun x=>.ok (.ret (.ref x.a))
 new:=fun x=>[(x.a,lst (([]++numVs x.ns)++[.ref x.n]) 0)]
 giveImm:=fun x=>numLed x.ns++[(x.n,lst [iv 63 x.t] 0)]
 giv:=true
 d:=60
 u:=120
noncomputable def dwR (N0 t0 c:Nat):DrR:=⟨N0,N0+5,N0+6,N0+7,N0+8,N0+1,N0+2,N0+3,N0+4,c,t0⟩
noncomputable def DwX.all (x:DwX):List Num:=x.ns++[⟨x.n,0,[(63,x.t)]⟩]
theorem DwX.vs (x:DwX):([]++numVs x.ns)++[Value.ref x.n]=numVs x.all:=by simp [DwX.all,numVs]
theorem DwX.led (x:DwX):numLed x.ns++[(x.n,lst [iv 63 x.t] 0)]=numLed x.all:=by simp only [DwX.all,numLed,List.map_append];rfl
def dwPost (cs:LN):DwX->Prop:=fun x=>x.all.map Num.val=drawnAll cs
theorem sDrawn_valid (w:World) (c:Nat) (l:List (Nat×Nat)) (ep:Nat) (hl:l.length<=1000):Vd w (sDrawn c (ivs l) ep (dwPost (l.map (·.1)))):=by
 have fin:∀(ns:List Num) (n t:Nat),ns.map Num.val=(l.map fun p=>drawn1 p.1)->dwPost (l.map (·.1)) ⟨0,ns,n,t⟩:=fun ns n t h=>by
  show (ns++[(⟨n,0,[(63,t)]⟩:Num)]).map Num.val=_
  rw [List.map_append,h]
  unfold drawnAll
  rw [List.map_map];rfl
 have hns:∀(x:DrX),drPost l x->x.ns.length<=1000:=fun x h=>by
  have:=congrArg List.length h
  simp at this;lia
 have sub:∀(ns:List Num) (n t:Nat) (bag:Led),(∀q∈numLed ns,q∈bag)->∀q∈numLed ns++[(n,lst [iv 63 t] 0)],q∈bag++[(n,lst [iv 63 t] 0)]:=fun ns n t bag h q hq=>by
  rcases iA hq with hq | hq
  ·exact iL (h q hq)
  ·exact iR hq
 have im:∀(N0 t0:Nat) (p:Nat×Obj) (bag:Led),p∈drImm (dwR N0 t0 c) (ivs l) ep->p∈[(c,lst (ivs l) ep)]\/p∈bag++ledOf [(0,N0+1,cellO (N0+3)),(0,N0+2,cellO (N0+4)),(0,N0+3,lst (endVs t0) 0),(0,N0+4,lst (othVs t0) 0)]:=fun N0 t0 p bag hp=>by
  rcases iC hp with rfl | hp
  ·exact .inl (.head _)
  ·exact .inr (iR hp)
 revert w
 refine vRow2 [(c,lst (ivs l) ep)] (fun w=>(fun p hp=>hp)) ?_ ?_
 ·exact fun cc w s N0 t0 G_ D_ I_=>
   .use (cond cc 0x40005c0080000802000200e0380b02c00000080200000002 0x417000170001705c0005c0080000802000200e0380b02c00000080200000002) (sDr w (dwR N0 t0 c) (ivs l) ep 0 none [] 0 (drPost l)) [17,20,26,23] [2,20] [(5,N0+1,cellO (N0+3)),(8,N0+2,cellO (N0+4)),(11,N0+3,lst (endVs t0) 0),(14,N0+4,lst (othVs t0) 0)] (sDr_valid (dwR N0 t0 c) ep l hl l _ 0 none [] 0 rfl (by simp)) (inW D_ (fun p hp=>im _ _ p _ hp)) fun x1 N1 t1 h1=>
   .u 0x1028000280b0280701c07 (sConcat (N0+6) ([]++numVs x1.ns) x1.ep (N1+1) [Value.ref N1] 0) [4,5] [2] (sConcat_valid (by have:=hns x1 h1;simp [numVs];exact leT ‹_› rfl)) tt fun x2 N2 t2=>
   dn D_ 0x4 ((.ok (.ret (.ref x2)))) [] [(4,x2,lst (([]++numVs x1.ns)++[Value.ref N1]) 0)] [(1,N1,lst [iv 63 (t1+1)] 0)] fun s' O=>⟨(⟨x2,x1.ns,N1,t1+1⟩:DwX),fin _ _ _ h1,rfl,rfl,O.sub (sub _ _ _ _ fun q hq=>iR hq)⟩
 kernel_rfl
def sgX (w:World):Expr:=subs (rhs (atS (fnBody w 270) 0 [])) [1]
def sgC (w:World) (F it acc d k:Nat):Code:=.compLoop (sgX w) k (.ref it) (.ref acc) (compEnv (scopeOf (sgX w)) (fnEnv w 270 F []) d [])
section
variable (w:World) (q1:Nat) (nv:Value)
def sgD1:Obj:=dictO w [("number",q1,nv)] 1
def sgD2 (q2:Nat) (kv:Value):Obj:=dictO w [("number",q1,nv),("k",q2,kv)] 2
end
structure SfX where
 ss:List (LN×Nat)
 ep:Nat
 q2:Nat
 kv:Value
 k:Nat
def sSf (w:World) (F rit acc d:Nat) (n:Num) (q1 k m:Nat) (dd:Obj) (xs:LV) (ep:Nat) (post:SfX->Prop):Summ where
 code:=sgC w F rit acc d 1
 need:=[(rit,riO (Int.ofNat k) (Int.ofNat m) 1),(acc,lst xs ep),(d,dd)]
 imm:=[n.led]
 Res:=SfX
 post:=post
 res:=fun _=>.ok .next
 upd:=fun x=>[riO (Int.ofNat x.k) (Int.ofNat 0) 1,lst (xs++lineVs x.ss) x.ep,sgD2 w q1 (.ref n.at_) x.q2 x.kv]
 d:=20
 u:=40
theorem chr_valid {w:World} {c t:Nat} (h:c<1000):Vd w (sT "chr" [iv c t] (.str (st [c]))):=
 sT_str PySem.F.plain_chr PySem.F.entry_chr (gives_chr (Int.ofNat c) t (by simp;lia)) rfl (by
  show 1<=sizeLine
  rw [sizeLine_eq];decide)
def sfPost (l:LN):SfX->Prop:=fun x=>x.ss.map (·.1)=(vcode l).map fun c=>[c]
theorem rn_valid {w:World} {it k m:Nat}:Vd w (sRangeNext it (Int.ofNat k) (Int.ofNat (m+1)) 1 (Int.ofNat (k+1)) (Int.ofNat m)):=
 sRangeNext_valid (by simp <;>omega) (by simp) (by simp)
def prn {w:World} {G:OblG} {gl:List (Nat×Code)} {bag:Led} (H_:Nat) (it k m:Nat) (at_:LN) (next:∀(_:(sRangeNext it (Int.ofNat k) (Int.ofNat (m+1)) 1 (Int.ofNat (k+1)) (Int.ofNat m)).Res) (_ _:Nat),Pf mask pw w G [] bag):Pf mask pw w G gl bag:=.u H_ (sRangeNext it (Int.ofNat k) (Int.ofNat (m+1)) 1 (Int.ofNat (k+1)) (Int.ofNat m)) at_ [] (rn_valid) tt next
theorem sSf_fin {w:World} {F rit acc d:Nat} {n:Num} {q1 k m:Nat} {dd:Obj} {xs:LV} {ep:Nat} {f c:Nat} {r:LN} (hc:c=f+if r=[] then 0 else 64) {s s':Shared} {tk:Nat} {x:SfX} (h:sfPost r x) {li:Led}
  (O:Out s s' ((sSf w F rit acc d n q1 k m dd xs ep (sfPost (f::r))).need.map (·.1)) (rezip (sSf w F rit acc d n q1 k m dd xs ep (sfPost (f::r))).need [riO (Int.ofNat x.k) (Int.ofNat 0) 1,lst ((xs++[.str (st [c]) tk])++lineVs x.ss) x.ep,sgD2 w q1 (.ref n.at_) x.q2 x.kv]) [] li):
  Post (sSf w F rit acc d n q1 k m dd xs ep (sfPost (f::r))) s (.ok .next) s':=by
 refine ⟨⟨([c],tk)::x.ss,x.ep,x.q2,x.kv,x.k⟩,?_,rfl,rfl,?_⟩
 ·show [c]::x.ss.map (·.1)=_
  rw [vcode_cons,←hc,List.map_cons,show x.ss.map (·.1)=_ from h]
 ·rw [List.append_assoc] at O
  exact O.noGi
theorem sSf_valid (F rit acc d:Nat) (n:Num) (q1:Nat) (hn:n.fs.length<=1000) (hf:∀p∈n.fs,p.1<64):∀(r:List (Nat×Nat)) (w:World) (k q2:Nat) (kv:Value) (xs:LV) (ep:Nat),n.fs.drop k=r->xs.length<=10000+k->
  Vd w (sSf w F rit acc d n q1 k r.length (sgD2 w q1 (.ref n.at_) q2 kv) xs ep (sfPost (r.map (·.1)))):=by
 intro r
 induction r with
 | nil=>
  intro w k q2 kv xs ep hr hx
  revert w
  refine vRowR [n.led] (fun w=>(fun p hp=>hp)) ?_ ?_
  ·exact fun w s N0 t0 G_ D_ I_=>
    dn D_ 0x100b01806018000180001800 ((.ok .next)) [(0,rit,riO (Int.ofNat k) (Int.ofNat 0) 1),(3,acc,lst xs ep),(6,d,sgD2 w q1 (.ref n.at_) q2 kv)] [] [] fun s' O=>
   ⟨(⟨[],ep,q2,kv,k⟩:SfX),rfl,rfl,rfl,by have:=O.noGi;rw [←List.append_nil xs] at this;exact this⟩
  kernel_rfl
 | cons p r ih=>
  intro w k q2 kv xs ep hr hx
  obtain ⟨f,u⟩:=p
  obtain ⟨hg,hdr⟩:=drop_get hr
  have hk:k<n.fs.length:=(List.getElem?_eq_some_iff.mp hg).1
  have hlen:n.fs.length=k+1+r.length:=by
   have:=congrArg List.length hr
   simp at this;lia
  have hf0:f<64:=hf _ (List.mem_of_getElem? hg)
  have hll:(ivs n.fs).length=n.fs.length:=ivs_len _
  by_cases h0:r=[]
  ·subst h0
   revert w
   refine vRowR [n.led] (fun w=>(fun p hp=>hp)) ?_ ?_
   ·exact fun w s N0 t0 G_ D_ I_=>
     prn 0x10180001800 rit k 0 [0] fun x1 N1 t1=>
     piAdd 0x10000c000000300c k x1 1 (t1+1) (k+1) rfl [] fun x2 N2 t2=>
     .ui 0x10000c00000 (sLenI n.at_ (ivs n.fs) n.ep n.fs.length) [] [] (sLenI_valid hll (by exact leT ‹_› rfl)) (inJ I_) tt fun x3 N3 t3=>
     .u 0x400 (sV "int.__lt__" [iv (k+1) x2,iv n.fs.length x3] (Value.bool false)) [] [] (iLt_valid (by rw [hlen];simp)) tt fun x4 N4 t4=>
     .ui 0x60000200802000300c (sGetIntI n.at_ (ivs n.fs) n.ep (Int.ofNat k) x1 (iv f u)) [] [] (sGetIntI_valid _ (seq_ix (by rw [hll];exact hk)) (ivs_get hg) (fits_nat _ (by lia))) (inJ I_) tt fun x5 N5 t5=>
     .u 0x400 (sT "chr" [iv f u] (Value.str (st [f]))) [] [] (chr_valid (by lia)) tt fun x6 N6 t6=>
     psAppend 0x102400 (Value.type "list") none acc xs ep (Value.str (st [f]) x6) (by lia) [3] [] fun x7 N7 t7=>
     .uq 0x1 (sSf w F rit acc d n q1 (k+1) 0 (sgD2 w q1 (Value.ref n.at_) q2 (iv k x1)) (xs++[Value.str (st [f]) x6]) x7 (sfPost [])) [0,3,6] [] (ih _ _ _ _ _ _ hdr (la (by lia))) (inJ I_) tt fun x8 N8 t8 h8=>
     dn D_ 0x4 ((.ok .next)) [(0,rit,riO (Int.ofNat x8.k) (Int.ofNat 0) 1),(3,acc,lst ((xs++[Value.str (st [f]) x6])++lineVs x8.ss) x8.ep),(6,d,sgD2 w q1 (.ref n.at_) x8.q2 x8.kv)] [] [] fun s' O=>sSf_fin (r:=[]) (by simp) h8 O
   kernel_rfl
  ·have hpos:0<r.length:=List.length_pos_iff.mpr h0
   revert w
   refine vRowR [n.led] (fun w=>(fun p hp=>hp)) ?_ ?_
   ·exact fun w s N0 t0 G_ D_ I_=>
     prn 0x10180001800 rit k r.length [0] fun x1 N1 t1=>
     piAdd 0x10000c000000300c k x1 1 (t1+1) (k+1) rfl [] fun x2 N2 t2=>
     .ui 0x10000c00000 (sLenI n.at_ (ivs n.fs) n.ep n.fs.length) [] [] (sLenI_valid hll (by exact leT ‹_› rfl)) (inJ I_) tt fun x3 N3 t3=>
     .u 0x400 (sV "int.__lt__" [iv (k+1) x2,iv n.fs.length x3] (Value.bool true)) [] [] (iLt_valid (by rw [hlen];simp;lia)) tt fun x4 N4 t4=>
     .ui 0x60000200802000300c (sGetIntI n.at_ (ivs n.fs) n.ep (Int.ofNat k) x1 (iv f u)) [] [] (sGetIntI_valid _ (seq_ix (by rw [hll];exact hk)) (ivs_get hg) (fits_nat _ (by lia))) (inJ I_) tt fun x5 N5 t5=>
     piAdd 0x400 f u 64 (t5+0) (f+64) rfl [] fun x6 N6 t6=>
     .u 0x400 (sT "chr" [iv (f+64) x6] (Value.str (st [(f+64)]))) [] [] (chr_valid (by lia)) tt fun x7 N7 t7=>
     psAppend 0x102400 (Value.type "list") none acc xs ep (Value.str (st [(f+64)]) x7) (by lia) [3] [] fun x8 N8 t8=>
     .uq 0x1 (sSf w F rit acc d n q1 (k+1) r.length (sgD2 w q1 (Value.ref n.at_) q2 (iv k x1)) (xs++[Value.str (st [(f+64)]) x7]) x8 (sfPost (r.map Prod.fst))) [0,3,6] [] (ih _ _ _ _ _ _ hdr (la (by lia))) (inJ I_) tt fun x9 N9 t9 h9=>
     dn D_ 0x4 ((.ok .next)) [(0,rit,riO (Int.ofNat x9.k) (Int.ofNat 0) 1),(3,acc,lst ((xs++[Value.str (st [(f+64)]) x7])++lineVs x9.ss) x9.ep),(6,d,sgD2 w q1 (.ref n.at_) x9.q2 x9.kv)] [] [] fun s' O=>sSf_fin (by rw [if_neg (by simpa using h0)]) h9 O
   kernel_rfl
theorem sSf1_valid (F rit acc d:Nat) (n:Num) {q1:Nat} (hn:n.fs.length<=1000) (hf:∀p∈n.fs,p.1<64) (h1:n.fs≠[]) (w:World) {xs:LV} {ep:Nat} (hx:xs.length<=10000):
  Vd w (sSf w F rit acc d n q1 0 n.fs.length (sgD1 w q1 (.ref n.at_)) xs ep (sfPost n.val)):=by
 obtain ⟨p,r,he⟩:=List.exists_cons_of_ne_nil h1
 obtain ⟨f,u⟩:=p
 have hr:n.fs.drop 0=(f,u)::r:=he
 obtain ⟨hg,hdr⟩:=drop_get hr
 have hlen:n.fs.length=0+1+r.length:=by rw [he];simp;lia
 have hf0:f<64:=hf _ (List.mem_of_getElem? hg)
 have hll:(ivs n.fs).length=n.fs.length:=ivs_len _
 have hv:n.val=f::r.map (·.1):=by unfold Num.val;rw [he];rfl
 have hl2:n.fs.length=r.length+1:=by lia
 rw [hv,hl2]
 by_cases h0:r=[]
 ·subst h0
  revert w
  refine vRowR [n.led] (fun w=>(fun p hp=>hp)) ?_ ?_
  ·exact fun w s N0 t0 G_ D_ I_=>
    prn 0x10180001800 rit 0 0 [0] fun x1 N1 t1=>
    piAdd 0x10000c000000300c 0 x1 1 (t1+1) (0+1) rfl [] fun x2 N2 t2=>
    .ui 0x10000c00000 (sLenI n.at_ (ivs n.fs) n.ep n.fs.length) [] [] (sLenI_valid hll (by exact leT ‹_› rfl)) (inJ I_) tt fun x3 N3 t3=>
    .u 0x400 (sV "int.__lt__" [iv (0+1) x2,iv n.fs.length x3] (Value.bool false)) [] [] (iLt_valid (by rw [hlen];simp)) tt fun x4 N4 t4=>
    .ui 0x60000200802000300c (sGetIntI n.at_ (ivs n.fs) n.ep (Int.ofNat 0) x1 (iv f u)) [] [] (sGetIntI_valid _ (seq_ix (by rw [hll];lia)) (ivs_get hg) (fits_nat _ (by decide))) (inJ I_) tt fun x5 N5 t5=>
    .u 0x400 (sT "chr" [iv f u] (Value.str (st [f]))) [] [] (chr_valid (by lia)) tt fun x6 N6 t6=>
    psAppend 0x102400 (Value.type "list") none acc xs ep (Value.str (st [f]) x6) (by exact leT ‹_› rfl) [3] [] fun x7 N7 t7=>
    .uq 0x1 (sSf w F rit acc d n q1 (0+1) 0 (sgD2 w q1 (Value.ref n.at_) t1 (iv 0 x1)) (xs++[Value.str (st [f]) x6]) x7 (sfPost [])) [0,3,6] [] (sSf_valid F rit acc d n q1 hn hf [] _ _ _ _ _ _ hdr (la (by lia))) (inJ I_) tt fun x8 N8 t8 h8=>
    dn D_ 0x4 ((.ok .next)) [(0,rit,riO (Int.ofNat x8.k) (Int.ofNat 0) 1),(3,acc,lst ((xs++[Value.str (st [f]) x6])++lineVs x8.ss) x8.ep),(6,d,sgD2 w q1 (.ref n.at_) x8.q2 x8.kv)] [] [] fun s' O=>sSf_fin (r:=[]) (by simp) h8 O
  kernel_rfl
 ·have hpos:0<r.length:=List.length_pos_iff.mpr h0
  revert w
  refine vRowR [n.led] (fun w=>(fun p hp=>hp)) ?_ ?_
  ·exact fun w s N0 t0 G_ D_ I_=>
    prn 0x10180001800 rit 0 r.length [0] fun x1 N1 t1=>
    piAdd 0x10000c000000300c 0 x1 1 (t1+1) (0+1) rfl [] fun x2 N2 t2=>
    .ui 0x10000c00000 (sLenI n.at_ (ivs n.fs) n.ep n.fs.length) [] [] (sLenI_valid hll (by exact leT ‹_› rfl)) (inJ I_) tt fun x3 N3 t3=>
    .u 0x400 (sV "int.__lt__" [iv (0+1) x2,iv n.fs.length x3] (Value.bool true)) [] [] (iLt_valid (by rw [hlen];simp;lia)) tt fun x4 N4 t4=>
    .ui 0x60000200802000300c (sGetIntI n.at_ (ivs n.fs) n.ep (Int.ofNat 0) x1 (iv f u)) [] [] (sGetIntI_valid _ (seq_ix (by rw [hll];lia)) (ivs_get hg) (fits_nat _ (by decide))) (inJ I_) tt fun x5 N5 t5=>
    piAdd 0x400 f u 64 (t5+0) (f+64) rfl [] fun x6 N6 t6=>
    .u 0x400 (sT "chr" [iv (f+64) x6] (Value.str (st [(f+64)]))) [] [] (chr_valid (by lia)) tt fun x7 N7 t7=>
    psAppend 0x102400 (Value.type "list") none acc xs ep (Value.str (st [(f+64)]) x7) (by exact leT ‹_› rfl) [3] [] fun x8 N8 t8=>
    .uq 0x1 (sSf w F rit acc d n q1 (0+1) r.length (sgD2 w q1 (Value.ref n.at_) t1 (iv 0 x1)) (xs++[Value.str (st [(f+64)]) x7]) x8 (sfPost (r.map Prod.fst))) [0,3,6] [] (sSf_valid F rit acc d n q1 hn hf r _ _ _ _ _ _ hdr (la (by lia))) (inJ I_) tt fun x9 N9 t9 h9=>
    dn D_ 0x4 ((.ok .next)) [(0,rit,riO (Int.ofNat x9.k) (Int.ofNat 0) 1),(3,acc,lst ((xs++[Value.str (st [(f+64)]) x7])++lineVs x9.ss) x9.ep),(6,d,sgD2 w q1 (.ref n.at_) x9.q2 x9.kv)] [] [] fun s' O=>sSf_fin (by rw [if_neg (by simpa using h0)]) h9 O
  kernel_rfl
structure SgX where
 ss:List (LN×Nat)
 ep:Nat
 q1:Nat
 nv:Value
 q2:Nat
 kv:Value
 i:Nat
def sSg (w:World) (F it acc d a:Nat) (vs:LV) (epa:Nat) (im:Led) (i:Nat) (dd:Obj) (xs:LV) (ep:Nat) (post:SgX->Prop):Summ where
 code:=sgC w F it acc d 0
 need:=[(it,iterO a i),(acc,lst xs ep),(d,dd)]
 imm:=(a,lst vs epa)::im
 Res:=SgX
 post:=post
 res:=fun _=>.ok .next
 upd:=fun x=>[iterE x.i,lst (xs++lineVs x.ss) x.ep,sgD2 w x.q1 x.nv x.q2 x.kv]
 d:=40
 u:=80
def sSigns (a:Nat) (vs:LV) (epa:Nat) (im:Led) (tx:LN):Summ where
 code:=.call (.ref 270) ⟨[.ref a],[]⟩
 imm:=(a,lst vs epa)::im
 Res:=Nat
 res:=fun x=>.ok (.ret (.str (st tx) x))
 d:=60
 u:=120
def sgPost (l:List LN):SgX->Prop:=fun x=>x.ss.map (·.1)=(signs l).map fun c=>[c]
theorem numVs_at {ns:List Num} {i:Nat} {n:Num} (h:ns[i]? =some n):(numVs ns)[i]? =some (.ref n.at_):=by unfold numVs;rw [List.getElem?_map,h];rfl
theorem sSg_fin {w:World} {F it acc d a:Nat} {vs:LV} {epa:Nat} {im:Led} {i:Nat} {dd:Obj} {xs:LV} {ep:Nat} {n:LN} {r:List LN} {s s':Shared} {x4:SfX} {x5:SgX} (h4:sfPost n x4) (h5:sgPost r x5) {li:Led}
  (O:Out s s' ((sSg w F it acc d a vs epa im i dd xs ep (sgPost (n::r))).need.map (·.1)) (rezip (sSg w F it acc d a vs epa im i dd xs ep (sgPost (n::r))).need [iterE x5.i,lst ((xs++lineVs x4.ss)++lineVs x5.ss) x5.ep,sgD2 w x5.q1 x5.nv x5.q2 x5.kv]) [] li):
  Post (sSg w F it acc d a vs epa im i dd xs ep (sgPost (n::r))) s (.ok .next) s':=by
 refine ⟨⟨x4.ss++x5.ss,x5.ep,x5.q1,x5.nv,x5.q2,x5.kv,x5.i⟩,?_,rfl,rfl,?_⟩
 ·show (x4.ss++x5.ss).map (·.1)=_
  rw [List.map_append,signs_cons,List.map_append,show x4.ss.map (·.1)=_ from h4,show x5.ss.map (·.1)=_ from h5]
 ·rw [List.append_assoc,show lineVs x4.ss++lineVs x5.ss=lineVs (x4.ss++x5.ss) by simp [lineVs]] at O
  exact O.noGi
theorem num_good {n:Num} (h:NG3 n.val):n.fs≠[]/\n.fs.length<=3/\∀p∈n.fs,p.1<64:=by
 obtain ⟨⟨h1,h2⟩,h3⟩:=h
 unfold Num.val at h1 h2 h3
 refine ⟨fun e=>h1 (by rw [e];rfl),by simpa using h3,fun p hp=>h2 p.1 (List.mem_map_of_mem hp)⟩
theorem sf_len {n:Num} (h:NG3 n.val) {x:SfX} (hx:sfPost n.val x):x.ss.length<=3:=by
 have:=congrArg List.length hx
 rw [List.length_map,List.length_map,(vcode_lt h.1).2] at this
 rw [this];exact h.2
theorem sSg_valid (F it acc d a epa:Nat) (ns:List Num) (hn:ns.length<=1000) (hg:∀n∈ns,NG3 n.val):∀(r:List Num) (w:World) (i q1:Nat) (nv:Value) (q2:Nat) (kv:Value) (xs:LV) (ep:Nat),ns.drop i=r->xs.length<=3*i->
  Vd w (sSg w F it acc d a (numVs ns) epa (numLed ns) i (sgD2 w q1 nv q2 kv) xs ep (sgPost (r.map Num.val))):=by
 intro r
 induction r with
 | nil=>
  intro w i q1 nv q2 kv xs ep hr hx
  have hi:(numVs ns).length<=i:=by
   have:ns.length<=i:=List.drop_eq_nil_iff.mp hr
   simpa [numVs] using this
  revert w
  refine vRow ?_ ?_
  ·exact fun w s N0 t0 G_ D_ I_=>
    .ui 0x10180001800 (sItEI it a i (Value.type "list") none (numVs ns) epa) [0] [] (sItEI_valid hi) (inS (I_ _ (.head _))) tt fun x1 N1 t1=>
    dn D_ 0x1007 ((.ok .next)) [(0,it,iterE i),(3,acc,lst xs ep),(6,d,sgD2 w q1 nv q2 kv)] [] [] fun s' O=>⟨(⟨[],ep,q1,nv,q2,kv,i⟩:SgX),rfl,rfl,rfl,by have:=O.noGi;rw [←List.append_nil xs] at this;exact this⟩
  kernel_rfl
 | cons n r ih=>
  intro w i q1 nv q2 kv xs ep hr hx
  obtain ⟨hgt,hdr⟩:=drop_get hr
  have hi:i<ns.length:=(List.getElem?_eq_some_iff.mp hgt).1
  have hmem:n∈ns:=List.mem_of_getElem? hgt
  obtain ⟨g1,g2,g3⟩:=num_good (hg n hmem)
  have hll:(ivs n.fs).length=n.fs.length:=ivs_len _
  have led:∀p∈[n.led],p∈(a,lst (numVs ns) epa)::numLed ns:=fun p hp=>List.mem_singleton.mp hp▸.tail _ (List.mem_map_of_mem hmem)
  have hxl:∀{x4:SfX},sfPost n.val x4->(xs++lineVs x4.ss).length<=3*(i+1):=fun {x4} h4=>by
   have:=sf_len (hg n hmem) h4
   simp [lineVs];lia
  revert w
  refine vRow2 [] roNil ?_ ?_
  ·exact fun cc w s N0 t0 G_ D_ I_=>
    psItNI 0x10180001800 it a i (Value.type "list") none (numVs ns) epa (Value.ref n.at_) (numVs_at hgt) [0] [] (inS (I_ _ (.head _))) fun x1 N1 t1=>
    .ui 0x10000c00000000000300c (sLenI n.at_ (ivs n.fs) n.ep n.fs.length) [] [] (sLenI_valid hll (by exact leT ‹_› rfl)) (inW D_ (fun p hp=>.inl (led p hp))) tt fun x2 N2 t2=>
    .u 0x102000020080200002000020080000000000 (sRangeIter N2 (Int.ofNat 0) (Int.ofNat n.fs.length) 1 t2 x2 (t2+1) (Int.ofNat n.fs.length)) [2] [] (sRangeIter_valid (rsize_up _) (rsmall_up (by exact leT ‹_› rfl))) tt fun x3 N3 t3=>
    .uq (cond cc 0x100007 0x101c0001c0001c0700007) (sSf w F x3 acc d n q1 0 n.fs.length (sgD2 w q1 (Value.ref n.at_) q2 kv) xs ep (sfPost n.val)) [1,3,6] [] (sSf_valid F _ acc d n _ (by exact leT ‹_› rfl) g3 n.fs _ 0 _ _ _ _ rfl (by lia)) (inW D_ (fun p hp=>.inl (led p hp))) tt fun x4 N4 t4 h4=>
    .uq 0x1 (sSg w F it acc d a (numVs ns) epa (numLed ns) (i+1) (sgD2 w q1 (Value.ref n.at_) x4.q2 x4.kv) (xs++lineVs x4.ss) x4.ep ((fun _=>sgPost (r.map Num.val)) x4)) [0,3,6] [] (ih _ _ _ _ _ _ _ _ hdr (hxl h4)) (inJ I_) tt fun x5 N5 t5 h5=>
    dn D_ 0x4 ((.ok .next)) [(0,it,iterE x5.i),(3,acc,lst ((xs++lineVs x4.ss)++lineVs x5.ss) x5.ep),(6,d,sgD2 w x5.q1 x5.nv x5.q2 x5.kv)] [] [] fun s' O=>sSg_fin h4 h5 O
  kernel_rfl
theorem sSg1_valid {F it acc d a epa:Nat} (n:Num) (r:List Num) (hn:(n::r).length<=1000) (hg:∀m∈n::r,NG3 m.val) (w:World) {ep:Nat}:
  Vd w (sSg w F it acc d a (numVs (n::r)) epa (numLed (n::r)) 0 (dictO w [] 0) [] ep (sgPost ((n::r).map Num.val))):=by
 obtain ⟨g1,g2,g3⟩:=num_good (hg n (.head _))
 have hll:(ivs n.fs).length=n.fs.length:=ivs_len _
 have led:∀p∈[n.led],p∈(a,lst (numVs (n::r)) epa)::numLed (n::r):=fun p hp=>List.mem_singleton.mp hp▸.tail _ (.head _)
 have hxl:∀{x4:SfX},sfPost n.val x4->([]++lineVs x4.ss).length<=3*1:=fun {x4} h4=>by
  have:=sf_len (hg n (.head _)) h4
  simp [lineVs];exact leT ‹_› rfl
 revert w
 refine vRow2 [] roNil ?_ ?_
 ·exact fun cc w s N0 t0 G_ D_ I_=>
   psItNI 0x10180001800 it a 0 (Value.type "list") none (numVs (n::r)) epa (Value.ref n.at_) rfl [0] [] (inS (I_ _ (.head _))) fun x1 N1 t1=>
   .ui 0x10000c00000000000300c (sLenI n.at_ (ivs n.fs) n.ep n.fs.length) [] [] (sLenI_valid hll (by exact leT ‹_› rfl)) (inW D_ (fun p hp=>.inl (led p hp))) tt fun x2 N2 t2=>
   .u 0x102000020080200002000020080000000000 (sRangeIter N2 (Int.ofNat 0) (Int.ofNat n.fs.length) 1 t2 x2 (t2+1) (Int.ofNat n.fs.length)) [2] [] (sRangeIter_valid (rsize_up _) (rsmall_up (by exact leT ‹_› rfl))) tt fun x3 N3 t3=>
   .uq (cond cc 0x100007 0x101c0001c0001c0700007) (sSf w F x3 acc d n t1 0 n.fs.length (sgD1 w t1 (Value.ref n.at_)) [] ep (sfPost n.val)) [1,3,6] [] (sSf1_valid F _ acc d n (by exact leT ‹_› rfl) g3 g1 _ (by simp)) (inW D_ (fun p hp=>.inl (led p hp))) tt fun x4 N4 t4 h4=>
   .uq 0x1 (sSg w F it acc d a (numVs (n::r)) epa (numLed (n::r)) (0+1) (sgD2 w t1 (Value.ref n.at_) x4.q2 x4.kv) ([]++lineVs x4.ss) x4.ep ((fun _=>sgPost (r.map Num.val)) x4)) [0,3,6] [] (sSg_valid F it acc d a epa (n::r) hn hg r _ 1 _ _ _ _ _ _ rfl (hxl h4)) (inJ I_) tt fun x5 N5 t5 h5=>
   dn D_ 0x4 ((.ok .next)) [(0,it,iterE x5.i),(3,acc,lst (([]++lineVs x4.ss)++lineVs x5.ss) x5.ep),(6,d,sgD2 w x5.q1 x5.nv x5.q2 x5.kv)] [] [] fun s' O=>sSg_fin h4 h5 O
 kernel_rfl
theorem glue_ones (l:LN):glue [] (l.map fun c=>[c])=l:=by
 cases l with
 | nil=>rfl
 | cons c l=>
  show [c]++_=_
  rw [List.flatMap_map]
  simp
theorem sSigns_valid (w:World) (a epa:Nat) (ns:List Num) (hn:ns.length<=1000) (hg:∀n∈ns,NG3 n.val):Vd w (sSigns a (numVs ns) epa (numLed ns) (signs (ns.map Num.val))):=by
 cases ns with
 | nil=>
  revert w
  refine vRow2 [(a,lst [] epa)] (fun w=>(fun p hp=>hp)) ?_ ?_
  ·exact fun cc w s N0 t0 G_ D_ I_=>
    .u (cond cc 0x4000441105c0b02e0002c0b0000b0000b0000002c00800008020002000000080200000002 0x4000441105c0b02e0002c0b0000b0000b0000b0000b0000b02c0002c00800008020002000000080200000002) (sJoinL (N0+2) [] (t0+1) [] [] 0 []) [8] [] (sJoinL_valid rfl rfl (by simp)) tt fun x1 N1 t1=>
    endQ D_ 0x4 x1 [] [] [] fun s' O=>⟨x1,trivial,rfl,rfl,O.noGi⟩
  kernel_rfl
 | cons n r=>
  have hg':∀m∈(n::r).map Num.val,NG3 m:=fun m hm=>by
   obtain ⟨k,hk,rfl⟩:=List.mem_map.mp hm
   exact hg k hk
  have hs:=(signs_lt hg').2.2
  rw [List.length_map] at hs
  have jn:∀(x:SgX),sgPost ((n::r).map Num.val) x->∀(L t el:Nat) (w:World),Vd w (sJoinL L [] t x.ss ([]++lineVs x.ss) el (signs ((n::r).map Num.val))):=fun x hx L t el w=>by
   have hx:x.ss.map (·.1)=(signs ((n::r).map Num.val)).map fun c=>[c]:=hx
   refine sJoinL_valid rfl (by rw [hx,glue_ones]) ?_
   have hl:=congrArg List.length hx
   rw [List.length_map,List.length_map] at hl
   rw [hx,List.map_map]
   have:(List.map (List.length∘fun c=>[c]) (signs ((n::r).map Num.val))).sum=(signs ((n::r).map Num.val)).length:=by
    generalize signs ((n::r).map Num.val)=l
    induction l with
    | nil=>rfl
    | cons c l ih=>simp only [List.map_cons,List.sum_cons,ih,Function.comp,List.length_cons,List.length_nil];lia
   rw [this]
   simp only [List.length_nil,Nat.mul_zero]
   lia
  have imm:∀p∈(a,lst (numVs (n::r)) epa)::numLed (n::r),p∈(sSigns a (numVs (n::r)) epa (numLed (n::r)) (signs ((n::r).map Num.val))).imm:=fun p hp=>hp
  have ro:∀p∈[(a,lst (numVs (n::r)) epa)],p∈(sSigns a (numVs (n::r)) epa (numLed (n::r)) (signs ((n::r).map Num.val))).imm:=fun p hp=>List.mem_singleton.mp hp▸.head _
  revert w
  refine vRow2 [(a,lst (numVs (n::r)) epa)] (fun w=>ro) ?_ ?_
  ·exact fun cc w s N0 t0 G_ D_ I_=>
    .uq (cond cc 0x40002c00800008020002000000080200000002 0x40b0000b0000b02c0002c00800008020002000000080200000002) (sSg w N0 (N0+1) (N0+2) (N0+3) a (numVs (n::r)) epa (numLed (n::r)) 0 (dictO w [] 0) [] 0 (sgPost ((n::r).map Num.val))) [5,8,11] [8,11] (sSg1_valid n r hn hg _) (inJ I_) tt fun x1 N1 t1 h1=>
    .u 0x4000280a0280a0280a (sJoinL (N0+2) [] (t0+1) (id x1.ss) ([]++lineVs x1.ss) x1.ep _) [1] [] (jn x1 h1 _ _ _ _) tt fun x2 N2 t2=>
    endQ D_ 0x4 x2 [] [] [] fun s' O=>⟨x2,trivial,rfl,rfl,O.noGi⟩
  kernel_rfl
noncomputable def preT (pre:Option (Expr×Value)) (env:Env):Sem Unit:=match pre with
 | some (t,v)=>assign t env v
 | none=>pure ()
noncomputable def segK (f:Flow):Sem PySem.Fin:=match f with
 | .next=>pure (.done .next)
 | _=>Sem.unsupported "no"
noncomputable def lastK (target:Expr) (it:Value) (body orelse:List Stmt) (env:Env) (f:Flow):Sem PySem.Fin:=match f with
 | .next | .cont=>again (.forLoop target it body orelse env)
 | .brk=>pure (.done .next)
 | .ret v=>pure (.done (.ret v))
section
variable (pre:Option (Expr×Value)) (ss:List Stmt)
def segT (env:Env):Sem PySem.Fin:=preT pre env>>=fun _=>execs ss env>>=segK
def lastT (target:Expr) (it:Value) (body orelse:List Stmt) (env:Env):Sem PySem.Fin:=
 (preT pre env>>=fun _=>execs ss env>>=lastK target it body orelse env).onRaise (fun x=>do noteFrame x env;theTreesLotGoes x)
end
theorem tailT_last (target:Expr) (it v:Value) (body orelse:List Stmt) (env:Env):tailT target it v body orelse env=lastT (some (target,v)) body target it body orelse env:=by
 unfold tailT lastT restT
 congr 1
theorem execs_app (env:Env):∀(a b:List Stmt),execs (a++b) env=execs a env>>=fun f=>match f with | .next=>execs b env | f=>pure f
 | [],b=>by
  show execs b env=_
  rw [show execs [] env=pure .next from by rw [execs]]
  rfl
 | s::a,b=>by
  show execs (s::(a++b)) env=_
  rw [execs,execs,LawfulMonad.bind_assoc]
  congr 1
  funext f
  cases f
  ·exact execs_app env a b
  all_goals rfl
noncomputable def segS (S:Summ) (Res1:Type) (post1:Res1->Prop) (upd1:Res1->List Obj) (new1:Res1->Led):Summ where
 code:=S.code
 need:=S.need
 imm:=S.imm
 Res:=Res1
 post:=post1
 res:=fun _=>.ok .next
 upd:=upd1
 new:=new1
 d:=S.d
 u:=S.u
theorem own_split {w:World} {S:Summ} {Res1:Type} {post1:Res1->Prop} {upd1:Res1->List Obj} {new1:Res1->Led} {pre:Option (Expr×Value)} {ss1 ss2:List Stmt} {target:Expr} {it:Value} {body orelse:List Stmt} {env:Env}
  (hg:S.gneed=[]) (ul:∀x,(upd1 x).length=S.need.length)
  (H1:OwnT w (segS S Res1 post1 upd1 new1) (segT pre ss1 env))
  (H2:∀x,post1 x->OwnT w (tailS S (upd1 x) (new1 x)) (lastT none ss2 target it body orelse env)):OwnT w S (lastT pre (ss1++ss2) target it body orelse env):=by
 intro A s room base need imm nodup msk gn Γ p hc hΓ
 have h1:=H1 A s ⟨room.handled,room.depth,room.units,fun e q=>(nomatch q),room.frames,fun e q=>(nomatch q)⟩ base need imm nodup msk (fun _ h=>nomatch h) Γ p hc hΓ
 have no1:∀(e:Value) (s2:Shared),¬Post (segS S Res1 post1 upd1 new1) s (.error e) s2:=fun e s2 h=>by
  obtain ⟨x,_,hr,_⟩:=h
  cases hr
 unfold lastT
 rw [Sem.wp_onRaise]
 unfold segT at h1
 rw [Sem.wp_bind'] at h1 ⊢
 refine Sem.wp_mono _ Γ _ (fun _ p1 s1 h1=>?_) (fun e p1 s1 h1=>absurd h1 (no1 e s1)) p s h1
 rw [execs_app,LawfulMonad.bind_assoc]
 rw [Sem.wp_bind'] at h1 ⊢
 refine Sem.wp_mono _ Γ _ (fun f p2 s2 h1=>?_) (fun e p1 s1 h1=>absurd h1 (no1 e s1)) p1 s1 h1
 have bad:∀(what:String) (Q:PySem.Fin->Pos->Shared->Prop) (E:Value->Pos->Shared->Prop),¬Sem.wp (model pw w) Γ (Sem.unsupported what) Q E p2 s2:=fun what Q E h=>by rw [Sem.wp_unsupported] at h;exact h
 cases f with
 | brk=>exact absurd h1 (bad _ _ _)
 | cont=>exact absurd h1 (bad _ _ _)
 | ret v=>exact absurd h1 (bad _ _ _)
 | next=>
  have h1:Post (segS S Res1 post1 upd1 new1) s (.ok .next) s2:=by
   have h2:Sem.wp _ Γ (Sem.pure (PySem.Fin.done .next)) _ _ p2 s2:=h1
   rw [Sem.wp] at h2
   exact h2
  obtain ⟨x,hx,hr,hlen,O1⟩:=h1
  have hx:post1 x:=hx
  have O1:Out s s2 (S.need.map (·.1)) (rezip S.need (upd1 x)) (new1 x) []:=O1
  have keys2:(rezip S.need (upd1 x)).map (·.1)=S.need.map (·.1):=rezip_len (ul x)
  have newNot:∀q∈new1 x,q.1∉S.need.map (·.1):=fun q hq hm=>by
   obtain ⟨r,hr,e⟩:=List.mem_map.mp hm
   have e: @Eq Nat r.1 q.1:=e
   have: @LT.lt Nat _ r.1 s.heap.objs.size:=Heap.lt_size (need r hr)
   have:=(O1.nw q hq).2
   lia
  have maskNew:∀q∈new1 x,Nat.testBit mask q.1=false:=fun q hq=>by
   cases h:Nat.testBit mask q.1 with
   | false=>rfl
   | true=>have:=base.lt _ h;have:=(O1.nw q hq).2;lia
  have need2:∀p∈(tailS S (upd1 x) (new1 x)).need,s2.heap.get? p.1=some p.2:=fun q hq=>by
   rcases iA hq with hq | hq
   ·exact O1.gv q hq
   ·exact (O1.nw q hq).1
  have msk2:∀p∈(tailS S (upd1 x) (new1 x)).need,Nat.testBit mask p.1=false:=fun q hq=>by
   rcases iA hq with hq | hq
   ·have:q.1∈S.need.map (·.1):=by rw [←keys2];exact List.mem_map_of_mem hq
    obtain ⟨r,hr,e⟩:=List.mem_map.mp this
    rw [←e];exact msk r hr
   ·exact maskNew q hq
  have base2:BaseOk mask w s2.heap:=O1.base base fun b hh=>by
   obtain ⟨r,hr,e⟩:=List.mem_map.mp hh
   rw [←e];exact msk r hr
  have needKeys:((tailS S (upd1 x) (new1 x)).need).map (·.1)=S.need.map (·.1)++(new1 x).map (·.1):=by
   show (rezip S.need (upd1 x)++new1 x).map (·.1)=_
   rw [List.map_append,keys2]
  have imm2:∀p∈(tailS S (upd1 x) (new1 x)).imm,s2.heap.get? p.1=some p.2/\p.1∉(tailS S (upd1 x) (new1 x)).need.map (·.1):=fun q hq=>by
   have hi:=imm q hq
   refine ⟨O1.keep _ _ hi.1 hi.2,fun hm=>?_⟩
   rw [needKeys] at hm
   rcases iA hm with hm | hm
   ·exact hi.2 hm
   ·obtain ⟨r,hr,e⟩:=List.mem_map.mp hm
    have e: @Eq Nat r.1 q.1:=e
    have: @LT.lt Nat _ q.1 s.heap.objs.size:=Heap.lt_size hi.1
    have:=(O1.nw r hr).2
    lia
  have nodup2:((tailS S (upd1 x) (new1 x)).need.map (·.1)).Nodup:=by
   rw [needKeys]
   refine List.nodup_append.mpr ⟨nodup,O1.nodup,fun b hb1 c hc1 e=>?_⟩
   obtain ⟨r,hr,e2⟩:=List.mem_map.mp hc1
   exact newNot r hr (by rw [e2,←e];exact hb1)
  have h2:=H2 x hx A s2 ⟨room.handled,room.depth,room.units,fun e q=>(nomatch q),room.frames,fun e q=>(nomatch q)⟩ base2 need2 imm2 nodup2 msk2 (fun _ h=>nomatch h) Γ p2 hc hΓ
  unfold lastT at h2
  rw [Sem.wp_onRaise,Sem.wp_bind'] at h2
  rw [show preT none env=Sem.pure () from rfl,Sem.wp_pure] at h2
  have fin:∀r s',Post (tailS S (upd1 x) (new1 x)) s2 r s'->Post S s r s':=fun r s' hP=>by
   obtain ⟨y,hy,hr,hl,O2⟩:=hP
   have hl:(S.upd y).length+(S.gone+(new1 x).length)=(rezip S.need (upd1 x)++new1 x).length:=hl
   rw [List.length_append,rezip_out (ul x)] at hl
   refine ⟨y,hy,hr,by lia,?_⟩
   have O2:Out s2 s' (((rezip S.need (upd1 x)++new1 x)).map (·.1)) (rezip (rezip S.need (upd1 x)++new1 x) (S.upd y)) (S.new y) (S.giveImm y):=O2
   rw [rezip_app (ul x) (by lia),List.map_append,keys2] at O2
   refine ⟨fun b o hbo hbn=>?_,O2.gv,fun q hq=>?_,fun q hq=>?_,O2.nodup,?_,O2.os.trans O1.os,fun hb=>O2.bare (O1.bare hb)⟩
   ·have hlt: @LT.lt Nat _ b s.heap.objs.size:=Heap.lt_size hbo
    refine O2.keep b o (O1.keep b o hbo hbn) fun hm=>?_
    rcases iA hm with hm | hm
    ·exact hbn hm
    ·obtain ⟨r,hr,e⟩:=List.mem_map.mp hm
     have e: @Eq Nat r.1 b:=e
     have:=(O1.nw r hr).2
     lia
   ·have h5:=O2.nw q hq
    exact ⟨h5.1,Nat.le_trans O1.size h5.2⟩
   ·have h5:=O2.gi q hq
    exact ⟨h5.1,Nat.le_trans O1.size h5.2.1,h5.2.2⟩
   ·exact Nat.le_trans O1.size O2.size
  refine Sem.wp_mono _ Γ _ (fun f p4 s4 h4=>postC_mono fin h4) (fun e p4 s4 h4=>?_) p2 s2 h2
  exact Sem.wp_mono _ Γ _ (fun _ p5 s5 h5=>fin _ _ h5) (fun _ p5 s5 h5=>fin _ _ h5) p4 s4 h4
end Mine
lay_z Mine.segT
lay_z Mine.lastT
namespace Mine
def preOf (st:Stmt):Option Value->Option (Expr×Value)
 | some v=>some (forTgt st,v)
 | none=>none
def segZ (st:Stmt) (pre:Option Value) (ss:List Stmt) (env:Env):Sem PySem.Fin:=PySem.W.ZFast.zw11167315872454512835 (preOf st pre) ss env
def lastZ (st:Stmt) (it:Value) (pre:Option Value) (ss:List Stmt) (env:Env):Sem PySem.Fin:=PySem.W.ZFast.zw8838582400055837229 (preOf st pre) ss (forTgt st) it (partS st 0) (partS st 1) env
theorem own_tailZ {w:World} {S:Summ} {st:Stmt} {it v:Value} {env:Env} (h:OwnT w S (lastZ st it (some v) (partS st 0) env)):OwnT w S (tailZ st it v env):=by
 unfold lastZ at h
 rw [←PySem.W.ZFast.ze8838582400055837229] at h
 unfold tailZ
 rw [←PySem.W.ZFast.ze7205686946080444099,tailT_last]
 exact h
theorem own_splitZ {w:World} {S:Summ} {Res1:Type} {post1:Res1->Prop} {upd1:Res1->List Obj} {new1:Res1->Led} {st:Stmt} {it:Value} {pre:Option Value} {ss ss1 ss2:List Stmt} {env:Env}
  (hss:ss=ss1++ss2) (hg:S.gneed=[]) (ul:∀x,(upd1 x).length=S.need.length)
  (H1:OwnT w (segS S Res1 post1 upd1 new1) (segZ st pre ss1 env))
  (H2:∀x,post1 x->OwnT w (tailS S (upd1 x) (new1 x)) (lastZ st it none ss2 env)):OwnT w S (lastZ st it pre ss env):=by
 subst hss
 unfold segZ at H1
 rw [←PySem.W.ZFast.ze11167315872454512835] at H1
 unfold lastZ at H2 ⊢
 rw [←PySem.W.ZFast.ze8838582400055837229] at H2 ⊢
 exact own_split hg ul H1 H2
set_option genCtorIdx true in
inductive T3 where
 | x | y | z
theorem t3s:∀t:T3,t∈[T3.x,.y,.z]:=fun t=>by cases t <;>simp
set_option genCtorIdx true in
inductive Sh where
 | s0 | a | c0 | b | c
noncomputable def T3.fig:T3->Sh
 | .x=>.c0
 | .y=>.b
 | .z=>.c
noncomputable def T3.run:T3->Sh
 | .x=>.a
 | .y=>.b
 | .z=>.c
noncomputable def bcS:Bool->Sh
 | false=>.b
 | true=>.c
noncomputable def nfS:Bool->Sh
 | false=>.s0
 | true=>.a
noncomputable def crS:Bool->Sh
 | false=>.s0
 | true=>.c0
noncomputable def Sh.withFig:Sh->Sh
 | .s0=>.c0
 | .a=>.b
 | s=>s
noncomputable def Sh.withRun:Sh->Sh
 | .s0=>.a
 | .c0=>.c
 | s=>s
structure PlR where
 F:Nat
 a:Nat
 z:Nat
 it:Nat
 bl:Nat
 pl:Nat
 sg:Nat
 tsg:Nat
 wd:Nat
 twd:Nat
 q:Nat->Nat
structure PlV where
 qk:Nat
 kv:Value
 qn:Nat
 nv:Value
 qf:Nat
 fv:Value
 qr:Nat
 rv:Value
def plB (R:PlR) (qd:Bool) (ah:Nat) (tah:Nat) (l:List (Str×Nat×Value)):List (Str×Nat×Value):=
 ("numbers",R.q 0,.ref R.a)::("code",R.q 1,iv R.sg R.tsg)::("width",R.q 2,iv R.wd R.twd)::("quoted",R.q 3,.bool qd)::("blocks",R.q 4,.ref R.bl)::("places",R.q 5,.ref R.pl)::("ahead",R.q 6,iv ah tah)::l
noncomputable def shL (V:PlV) (l:List (Str×Nat×Value)):Sh->List (Str×Nat×Value)
 | .s0=>("k",V.qk,V.kv)::("number",V.qn,V.nv)::l
 | .a=>("k",V.qk,V.kv)::("number",V.qn,V.nv)::("run",V.qr,V.rv)::l
 | .c0=>("k",V.qk,V.kv)::("number",V.qn,V.nv)::("figure",V.qf,V.fv)::l
 | .b=>("k",V.qk,V.kv)::("number",V.qn,V.nv)::("run",V.qr,V.rv)::("figure",V.qf,V.fv)::l
 | .c=>("k",V.qk,V.kv)::("number",V.qn,V.nv)::("figure",V.qf,V.fv)::("run",V.qr,V.rv)::l
noncomputable def shN:Sh->Nat
 | .s0=>9
 | .a=>10
 | .c0=>10
 | .b=>11
 | .c=>11
section
variable (w:World) (R:PlR) (qd:Bool) (ah tah:Nat)
def plF (sh:Sh) (V:PlV):Obj:=frameO w (plB R qd ah tah (shL V [] sh)) (shN sh)
def plF0:Obj:=frameO w (plB R qd ah tah []) 7
end
def stPl (w:World):Stmt:=atS (fnBody w 301) 3 []
noncomputable def PlV.fig (V:PlV) (q:Nat) (v:Value):PlV:={V with qf:=q,fv:=v}
structure L2X where
 b:Nat
 tb:Nat
 ep:Nat
 qf:Nat
 fv:Value
 i:Nat
def sL2 (w:World) (R:PlR) (qd:Bool) (ah tah:Nat) (sh sh2:Sh) (V:PlV) (it2 y:Nat) (ys:LV) (i:Nat) (vs:LV) (b tb ep:Nat) (post:L2X->Prop):Summ where
 code:=loopC (atS (fnBody w 301) 3 [(0,0)]) (.ref it2) (fnEnv w 301 R.F [])
 need:=[(R.F,plF w R qd ah tah sh V),(it2,iterO y i),(R.bl,lst (vs++[iv b tb]) ep)]
 imm:=[(y,lst ys 0)]
 Res:=L2X
 post:=post
 res:=fun _=>.ok .next
 upd:=fun x=>[plF w R qd ah tah sh2 (V.fig x.qf x.fv),iterE x.i,lst (vs++[iv x.b x.tb]) x.ep]
 d:=20
 u:=40
noncomputable def szS (qd:Bool) (f:Nat):Nat:=if f=28\/qd=false then 2 else 1
def l2Post (qd:Bool) (b:Nat) (r:LN):L2X->Prop:=fun x=>x.b=b+(r.map (szS qd)).sum
theorem l2_step {qd:Bool} {b b2 f:Nat} {r:LN} (h:b2=b+szS qd f) {x:L2X} (hx:l2Post qd b2 r x):l2Post qd b (f::r) x:=by
 unfold l2Post at *
 rw [hx,h,List.map_cons,List.sum_cons];lia
theorem seq_m1 {vs:LV} {u:Value}:seqIndex? (-1) (vs++[u]).length=some vs.length/\(vs++[u])[vs.length]? =some u:=by
 exact ⟨by rw [List.length_append];exact seq_m,by simp⟩
theorem sL2_valid (R:PlR) (qd:Bool) (ah tah:Nat) (t:T3) (it2 y:Nat) (l:List (Nat×Nat)) (hl:∀p∈l,p.1<64) (vs:LV) (hv:vs.length<=1000):∀(r:List (Nat×Nat)) (w:World) (V:PlV) (i b tb ep:Nat),l.drop i=r->
  Vd w (sL2 w R qd ah tah t.fig t.fig V it2 y (ivs l) i vs b tb ep (l2Post qd b (r.map (·.1)))):=by
 intro r
 induction r with
 | nil=>
  intro w V i b tb ep hr
  have hi:(ivs l).length<=i:=by
   have:l.length<=i:=List.drop_eq_nil_iff.mp hr
   simpa [ivs] using this
  revert w t
  refine vFamR _ t3s [] (fun _=>roNil) ?_ ?_
  ·exact fun t w s N0 t0 G_ D_ I_=>
    .ui 0x10240002400 (sItEI it2 y i (Value.type "list") none (ivs l) 0) [3] [] (sItEI_valid hi) (inJ I_) tt fun x1 N1 t1=>
    endQ D_ 0x400007 (⟨b,tb,ep,V.qf,V.fv,i⟩:L2X) [0,3,6] [] [] fun s' O=>⟨(⟨b,tb,ep,V.qf,V.fv,i⟩:L2X),rfl,rfl,rfl,O.noGi⟩
  kernel_rfl
 | cons p r ih=>
  intro w V i b tb ep hr
  obtain ⟨f,u⟩:=p
  obtain ⟨hg,hdr⟩:=drop_get hr
  have hf:f<64:=hl _ (List.mem_of_getElem? hg)
  have hc:(ivs l)[i]? =some (iv f u):=ivs_get hg
  by_cases h28:f=28
  ·have hs:b+2=b+szS qd f:=by unfold szS;rw [if_pos (.inl h28)]
   revert w t
   refine vFamA _ t3s [] (fun _=>roNil) ?_ ?_
   ·exact fun t ih w s N0 t0 G_ D_ I_=>
     psItNI 0x10240002400 it2 y i (Value.type "list") none (ivs l) 0 (iv f u) hc [3] [] (inJ I_) fun x1 N1 t1=>
     psGetInt 0x40c0000c030000000601806 (Value.type "list") none R.bl (vs++[iv b tb]) ep (-1) (t1+2) (iv b tb) _ seq_m1.1 seq_m1.2 fits_m1 [6] [] fun x2 N2 t2=>
     piEq 0x100006 f u 28 (t2+0) true (by simp [h28]) [] fun x3 N3 t3=>
     piAdd 0x400 b tb 2 (t3+0) (b+2) rfl [] fun x4 N4 t4=>
     psSetLast 0x1030000300c R.bl vs (iv b tb) ep (t1+2) (iv (b+2) x4) (by exact leT ‹_› rfl) [6] [] fun x5 N5 t5=>
     .uq 0x1 (sL2 w R qd ah tah t.fig t.fig (V.fig V.qf (iv f u)) it2 y (ivs l) (i+1) vs (b+2) x4 x5 (l2Post qd (b+2) (r.map Prod.fst))) [0,3,6] [] (ih _ _ _ _ _ _ hdr) (inJ I_) tt fun x6 N6 t6 h6=>
     endQ D_ 0x4 x6 [0,3,6] [] [] fun s' O=>⟨x6,l2_step hs h6,rfl,rfl,O.noGi⟩
   kernel_rfl
  ·cases qd
   ·have hs:b+2=b+szS false f:=by unfold szS;rw [if_pos (.inr rfl)]
    revert w t
    refine vFamB _ t3s [] (fun _=>roNil) ?_ ?_
    ·exact fun t ih w s N0 t0 G_ D_ I_=>
      psItNI 0x10240002400 it2 y i (Value.type "list") none (ivs l) 0 (iv f u) hc [3] [] (inJ I_) fun x1 N1 t1=>
      psGetInt 0x40c0000c030000000601806 (Value.type "list") none R.bl (vs++[iv b tb]) ep (-1) (t1+2) (iv b tb) _ seq_m1.1 seq_m1.2 fits_m1 [6] [] fun x2 N2 t2=>
      piEq 0x100006 f u 28 (t2+0) false (by simp [h28]) [] fun x3 N3 t3=>
      piAdd 0x100006 b tb 2 (t3+0) (b+2) rfl [] fun x4 N4 t4=>
      psSetLast 0x1030000300c R.bl vs (iv b tb) ep (t1+2) (iv (b+2) x4) (by exact leT ‹_› rfl) [6] [] fun x5 N5 t5=>
      .uq 0x1 (sL2 w R false ah tah t.fig t.fig (V.fig V.qf (iv f u)) it2 y (ivs l) (i+1) vs (b+2) x4 x5 (l2Post false (b+2) (r.map Prod.fst))) [0,3,6] [] (ih _ _ _ _ _ _ hdr) (inJ I_) tt fun x6 N6 t6 h6=>
      endQ D_ 0x4 x6 [0,3,6] [] [] fun s' O=>⟨x6,l2_step hs h6,rfl,rfl,O.noGi⟩
    kernel_rfl
   ·have hs:b+1=b+szS true f:=by unfold szS;rw [if_neg (by simp [h28])]
    revert w t
    refine vFamB _ t3s [] (fun _=>roNil) ?_ ?_
    ·exact fun t ih w s N0 t0 G_ D_ I_=>
      psItNI 0x10240002400 it2 y i (Value.type "list") none (ivs l) 0 (iv f u) hc [3] [] (inJ I_) fun x1 N1 t1=>
      psGetInt 0x40c0000c030000000601806 (Value.type "list") none R.bl (vs++[iv b tb]) ep (-1) (t1+2) (iv b tb) _ seq_m1.1 seq_m1.2 fits_m1 [6] [] fun x2 N2 t2=>
      piEq 0x100006 f u 28 (t2+0) false (by simp [h28]) [] fun x3 N3 t3=>
      piAdd 0x100006 b tb 1 (t3+0) (b+1) rfl [] fun x4 N4 t4=>
      psSetLast 0x1030000300c R.bl vs (iv b tb) ep (t1+2) (iv (b+1) x4) (by exact leT ‹_› rfl) [6] [] fun x5 N5 t5=>
      .uq 0x1 (sL2 w R true ah tah t.fig t.fig (V.fig V.qf (iv f u)) it2 y (ivs l) (i+1) vs (b+1) x4 x5 (l2Post true (b+1) (r.map Prod.fst))) [0,3,6] [] (ih _ _ _ _ _ _ hdr) (inJ I_) tt fun x6 N6 t6 h6=>
      endQ D_ 0x4 x6 [0,3,6] [] [] fun s' O=>⟨x6,l2_step hs h6,rfl,rfl,O.noGi⟩
    kernel_rfl
noncomputable def figT:Bool->T3
 | false=>.x
 | true=>.y
theorem figT_eq (t:Bool):(figT t).fig=(nfS t).withFig:=by cases t <;>rfl
theorem sL2F_valid (R:PlR) (qd:Bool) (ah tah:Nat) (t:Bool) {it2 y:Nat} (f u:Nat) (r:List (Nat×Nat)) (hl:∀p∈(f,u)::r,p.1<64) (vs:LV) (hv:vs.length<=1000) (w:World) {V:PlV} {b tb ep:Nat}:
  Vd w (sL2 w R qd ah tah (nfS t) (nfS t).withFig V it2 y (ivs ((f,u)::r)) 0 vs b tb ep (l2Post qd b (((f,u)::r).map (·.1)))):=by
 have hf:f<64:=hl _ (.head _)
 have ih:∀(w:World) (V:PlV) (b tb ep:Nat),Vd w (sL2 w R qd ah tah (nfS t).withFig (nfS t).withFig V it2 y (ivs ((f,u)::r)) 1 vs b tb ep (l2Post qd b (r.map (·.1)))):=fun w V b tb ep=>by
  rw [←figT_eq]
  exact sL2_valid R qd ah tah (figT t) it2 y ((f,u)::r) hl vs hv r w V 1 b tb ep rfl
 by_cases h28:f=28
 ·have hs:b+2=b+szS qd f:=by unfold szS;rw [if_pos (.inl h28)]
  revert w t
  refine vFamB _ bools [] (fun _=>roNil) ?_ ?_
  ·exact fun t ih w s N0 t0 G_ D_ I_=>
    psItNI 0x10240002400 it2 y 0 (Value.type "list") none (ivs ((f,u)::r)) 0 (iv f u) rfl [3] [] (inJ I_) fun x1 N1 t1=>
    psGetInt 0x40c0000c030000000601806 (Value.type "list") none R.bl (vs++[iv b tb]) ep (-1) (t1+2) (iv b tb) _ seq_m1.1 seq_m1.2 fits_m1 [6] [] fun x2 N2 t2=>
    piEq 0x100006 f u 28 (t2+0) true (by simp [h28]) [] fun x3 N3 t3=>
    piAdd 0x400 b tb 2 (t3+0) (b+2) rfl [] fun x4 N4 t4=>
    psSetLast 0x1030000300c R.bl vs (iv b tb) ep (t1+2) (iv (b+2) x4) (by exact leT ‹_› rfl) [6] [] fun x5 N5 t5=>
    .uq 0x1 (sL2 w R qd ah tah (nfS t).withFig (nfS t).withFig (V.fig t1 (iv f u)) it2 y (ivs ((f,u)::r)) (0+1) vs (b+2) x4 x5 (l2Post qd (b+2) (r.map Prod.fst))) [0,3,6] [] (ih _ _ _ _ _) (inJ I_) tt fun x6 N6 t6 h6=>
    endQ D_ 0x4 x6 [0,3,6] [] [] fun s' O=>⟨x6,l2_step hs h6,rfl,rfl,O.noGi⟩
  kernel_rfl
 ·cases qd
  ·have hs:b+2=b+szS false f:=by unfold szS;rw [if_pos (.inr rfl)]
   revert w t
   refine vFamB _ bools [] (fun _=>roNil) ?_ ?_
   ·exact fun t ih w s N0 t0 G_ D_ I_=>
     psItNI 0x10240002400 it2 y 0 (Value.type "list") none (ivs ((f,u)::r)) 0 (iv f u) rfl [3] [] (inJ I_) fun x1 N1 t1=>
     psGetInt 0x40c0000c030000000601806 (Value.type "list") none R.bl (vs++[iv b tb]) ep (-1) (t1+2) (iv b tb) _ seq_m1.1 seq_m1.2 fits_m1 [6] [] fun x2 N2 t2=>
     piEq 0x100006 f u 28 (t2+0) false (by simp [h28]) [] fun x3 N3 t3=>
     piAdd 0x100006 b tb 2 (t3+0) (b+2) rfl [] fun x4 N4 t4=>
     psSetLast 0x1030000300c R.bl vs (iv b tb) ep (t1+2) (iv (b+2) x4) (by exact leT ‹_› rfl) [6] [] fun x5 N5 t5=>
     .uq 0x1 (sL2 w R false ah tah (nfS t).withFig (nfS t).withFig (V.fig t1 (iv f u)) it2 y (ivs ((f,u)::r)) (0+1) vs (b+2) x4 x5 (l2Post false (b+2) (r.map Prod.fst))) [0,3,6] [] (ih _ _ _ _ _) (inJ I_) tt fun x6 N6 t6 h6=>
     endQ D_ 0x4 x6 [0,3,6] [] [] fun s' O=>⟨x6,l2_step hs h6,rfl,rfl,O.noGi⟩
   kernel_rfl
  ·have hs:b+1=b+szS true f:=by unfold szS;rw [if_neg (by simp [h28])]
   revert w t
   refine vFamB _ bools [] (fun _=>roNil) ?_ ?_
   ·exact fun t ih w s N0 t0 G_ D_ I_=>
     psItNI 0x10240002400 it2 y 0 (Value.type "list") none (ivs ((f,u)::r)) 0 (iv f u) rfl [3] [] (inJ I_) fun x1 N1 t1=>
     psGetInt 0x40c0000c030000000601806 (Value.type "list") none R.bl (vs++[iv b tb]) ep (-1) (t1+2) (iv b tb) _ seq_m1.1 seq_m1.2 fits_m1 [6] [] fun x2 N2 t2=>
     piEq 0x100006 f u 28 (t2+0) false (by simp [h28]) [] fun x3 N3 t3=>
     piAdd 0x100006 b tb 1 (t3+0) (b+1) rfl [] fun x4 N4 t4=>
     psSetLast 0x1030000300c R.bl vs (iv b tb) ep (t1+2) (iv (b+1) x4) (by exact leT ‹_› rfl) [6] [] fun x5 N5 t5=>
     .uq 0x1 (sL2 w R true ah tah (nfS t).withFig (nfS t).withFig (V.fig t1 (iv f u)) it2 y (ivs ((f,u)::r)) (0+1) vs (b+1) x4 x5 (l2Post true (b+1) (r.map Prod.fst))) [0,3,6] [] (ih _ _ _ _ _) (inJ I_) tt fun x6 N6 t6 h6=>
     endQ D_ 0x4 x6 [0,3,6] [] [] fun s' O=>⟨x6,l2_step hs h6,rfl,rfl,O.noGi⟩
   kernel_rfl
structure PlX where
 bi:List (Nat×Nat)
 b:Nat
 tb:Nat
 epb:Nat
 ps:List (Nat×Nat)
 epp:Nat
 ah:Nat
 tah:Nat
 t:T3
 V:PlV
 i:Nat
 lv:Value
def sPl (w:World) (R:PlR) (qd:Bool) (nvs:LV) (epa:Nat) (im:Led) (i:Nat) (fo:Obj) (lv:Value) (vs:LV) (b tb epb:Nat) (ps:LV) (epp:Nat) (post:PlX->Prop):Summ where
 code:=loopC (stPl w) (.ref R.z) (fnEnv w 301 R.F [])
 need:=[(R.F,fo),(R.z,enumV .none R.it (Int.ofNat i) lv),(R.it,iterO R.a i),(R.bl,lst (vs++[iv b tb]) epb),(R.pl,lst ps epp)]
 imm:=(R.a,lst nvs epa)::im
 Res:=PlX
 post:=post
 res:=fun _=>.ok .next
 upd:=fun x=>[plF w R qd x.ah x.tah x.t.run x.V,enumV .none R.it (Int.ofNat x.i) x.lv,iterE x.i,lst ((vs++ivs x.bi)++[iv x.b x.tb]) x.epb,lst (ps++ivs x.ps) x.epp]
 d:=40
 u:=80
def plU (R:PlR) (i:Nat) (fo:Obj) (a lv:Value) (vs:LV) (b tb epb:Nat) (ps:LV) (epp:Nat):List Obj:=[fo,enumV a R.it (Int.ofNat i) lv,iterO R.a i,lst (vs++[iv b tb]) epb,lst ps epp]
def sPlT (w:World) (R:PlR) (qd:Bool) (nvs:LV) (epa:Nat) (im:Led) (i:Nat) (fo:Obj) (lv:Value) (vs:LV) (b tb epb:Nat) (ps:LV) (epp:Nat) (post:PlX->Prop) (n:Num) (T u:Nat):Summ:=
 tailS (sPl w R qd nvs epa im i fo lv vs b tb epb ps epp post) (plU R (i+1) fo .none (.ref n.at_) vs b tb epb ps epp) [(T,tup [iv i u,.ref n.at_])]
structure P1X where
 V:PlV
 b:Nat
 tb:Nat
 epb:Nat
section
variable (w:World) (R:PlR) (qd:Bool)
def p1U (ah tah:Nat) (sh:Sh) (i:Nat) (n:Num) (vs ps:LV) (epp u:Nat) (x:P1X):List Obj:=
 plU R (i+1) (plF w R qd ah tah sh x.V) .none (.ref n.at_) vs x.b x.tb x.epb ps epp++[tup [iv i u,.ref n.at_]]
def sP1 (nvs:LV) (epa:Nat) (im:Led) (i:Nat) (fo:Obj) (lv:Value) (vs:LV) (b tb epb:Nat) (ps:LV) (epp:Nat) (post:PlX->Prop) (n:Num) (T u:Nat) (ah tah:Nat) (sh:Sh) (post1:P1X->Prop):Summ:=
 segS (sPlT w R qd nvs epa im i fo lv vs b tb epb ps epp post n T u) P1X post1 (p1U w R qd ah tah sh i n vs ps epp u) (fun _=>[])
def sP2 (nvs:LV) (epa:Nat) (im:Led) (i:Nat) (fo:Obj) (lv:Value) (vs:LV) (b tb epb:Nat) (ps:LV) (epp:Nat) (post:PlX->Prop) (n:Num) (T u:Nat) (ah tah:Nat) (sh:Sh) (x:P1X):Summ:=
 tailS (sPlT w R qd nvs epa im i fo lv vs b tb epb ps epp post n T u) (p1U w R qd ah tah sh i n vs ps epp u x) []
end
noncomputable def firstS:List Stmt->List Stmt
 | s::_=>[s]
 | []=>[]
noncomputable def restS:List Stmt->List Stmt
 | _::l=>l
 | []=>[]
def PlV.kn (V:PlV) (i u:Nat) (n:Num):PlV:={V with kv:=iv i u,nv:=.ref n.at_}
noncomputable def PlV.run (V:PlV) (q:Nat) (v:Value):PlV:={V with qr:=q,rv:=v}
def T1 (w:World) (R:PlR) (T:Nat):Sem PySem.Fin:=segZ (stPl w) (some (.ref T)) (firstS (partS (stPl w) 0)) (fnEnv w 301 R.F [])
def p1Post (i u:Nat) (n:Num) (qd:Bool) (b:Nat):P1X->Prop:=fun x=>x.V=x.V.kn i u n/\x.b=b+preSz qd n.val
theorem num_split {n:Num} (h:n.fs≠[]):∃(r:List (Nat×Nat)) (e ue:Nat),n.fs=r++[(e,ue)]/\lastN n.val=e/\preN n.val=r.map (·.1):=by
 obtain ⟨r,p,hp⟩:∃r p,n.fs=r++[p]:=⟨n.fs.dropLast,n.fs.getLast h,(List.dropLast_concat_getLast h).symm⟩
 refine ⟨r,p.1,p.2,hp,?_,?_⟩
 ·unfold Num.val;rw [hp,List.map_append];exact lastN_snoc _ _
 ·unfold Num.val;rw [hp,List.map_append];exact preN_snoc _ _
theorem preSz_eq (qd:Bool) (n:LN):preSz qd n=((preN n).map (szS qd)).sum:=rfl
theorem head_valid {w:World} {n:Num} {r:List (Nat×Nat)} {e ue:Nat} (h:n.fs=r++[(e,ue)]) (hl:n.fs.length<=1000) (sl:Nat) {t:Nat}:Vd w (sGetHead n.at_ (ivs n.fs) n.ep sl (-1) t (ivs r)):=by
 have hlen:(ivs n.fs).length=r.length+1:=by rw [h];simp [ivs]
 have hb:=bounds_init (ivs n.fs).length (by lia)
 have hr:ivs r=(ivs n.fs).take ((ivs n.fs).length-1):=by
  rw [hlen,h]
  simp [ivs]
 rw [hr]
 exact sGetHead_valid _ _ _ _ hb (Nat.sub_le _ _) (by simp [ivs];exact leT ‹_› rfl)
section
variable (R:PlR) (qd:Bool) (nvs:LV) (epa:Nat) (im:Led) (i:Nat) (lv:Value) (vs:LV) (b tb epb:Nat) (ps:LV) (epp:Nat) (post:PlX->Prop) (n:Num) (T u ah tah:Nat)
def P1Ok (fo:World->Obj) (sh:Sh):Prop:=∀(w:World),OwnT w (sP1 w R qd nvs epa im i (fo w) lv vs b tb epb ps epp post n T u ah tah sh (p1Post i u n qd b)) (T1 w R T)
theorem p1e1_valid (hm:n.led∈im) (h3:n.fs.length<=1000) {e ue:Nat} (h:n.fs=[]++[(e,ue)]) (hpre:preN n.val=[]):P1Ok R qd nvs epa im i lv vs b tb epb ps epp post n T u ah tah (fun w=>plF0 w R qd ah tah) .s0:=fun w=>by
 revert w
 refine vRowT (fun w=>segZ (stPl w) (some (.ref T)) (firstS (partS (stPl w) 0)) (fnEnv w 301 R.F [])) [n.led] (fun w=>(fun p hp=>List.mem_singleton.mp hp▸List.Mem.tail _ hm)) ?_ ?_
 ·exact fun w s N0 t0 G_ D_ I_=>
   .ui 0x60000200802000000001806018060180e0200805408020000200002008020150200800008000080200805408020000200002008000150001505415 (sGetHead n.at_ (ivs n.fs) n.ep (N0.add 3) (-1) (t0+3) []) [11] [] (head_valid (r:=[]) h h3 _) (inS (I_ _ (.tail _ hm))) tt fun x1 N1 t1=>
   endQ D_ 0x40000e0200801c080200002000020000200001c0001c07 (⟨(⟨t0,iv i u,t0+1,.ref n.at_,0,.none,0,.none⟩:PlV),b,tb,epb⟩:P1X) [0,3,6,9,12,15] [] [] fun s' O=>⟨(⟨(⟨t0,iv i u,t0+1,.ref n.at_,0,.none,0,.none⟩:PlV),b,tb,epb⟩:P1X),⟨rfl,by rw [preSz_eq,hpre];rfl⟩,rfl,rfl,O.noGi⟩
 kernel_rfl
theorem p1r1_valid (hm:n.led∈im) (h3:n.fs.length<=1000) (t:T3) (V:PlV) {e ue:Nat} (h:n.fs=[]++[(e,ue)]) (hpre:preN n.val=[]):P1Ok R qd nvs epa im i lv vs b tb epb ps epp post n T u ah tah (fun w=>plF w R qd ah tah t.run V) t.run:=fun w=>by
 revert w t
 refine vFamTR (fun w t=>segZ (stPl w) (some (.ref T)) (firstS (partS (stPl w) 0)) (fnEnv w 301 R.F [])) _ t3s [n.led] (fun _ _=>fun p hp=>List.mem_singleton.mp hp▸List.Mem.tail _ hm) ?_ ?_
 ·exact fun t w s N0 t0 G_ D_ I_=>
   .ui 0x60000200802000000001806018060180e0200805408020000200002008020150200800008000080200805408020000200002008000150001505415 (sGetHead n.at_ (ivs n.fs) n.ep (N0.add 3) (-1) (t0+3) []) [11] [] (head_valid (r:=[]) h h3 _) (inS (I_ _ (.tail _ hm))) tt fun x1 N1 t1=>
   endQ D_ 0x40000e0200801c080200002000020000200001c0001c07 (⟨(V.kn i u n),b,tb,epb⟩:P1X) [0,3,6,9,12,15] [] [] fun s' O=>⟨(⟨V.kn i u n,b,tb,epb⟩:P1X),⟨rfl,by rw [preSz_eq,hpre];rfl⟩,rfl,rfl,O.noGi⟩
 kernel_rfl
theorem p1_two {x2:L2X} {r:List (Nat×Nat)} (hpre:preN n.val=r.map (·.1)) (h2:l2Post qd b (r.map (·.1)) x2):x2.b=b+preSz qd n.val:=by rw [preSz_eq,hpre];exact h2
theorem p1e2_valid (hm:n.led∈im) (h3:n.fs.length<=1000) (hf:∀p∈n.fs,p.1<64) (hv:vs.length<=1000) {f uf:Nat} {r:List (Nat×Nat)} {e ue:Nat} (h:n.fs=((f,uf)::r)++[(e,ue)]) (hpre:preN n.val=((f,uf)::r).map Prod.fst):P1Ok R qd nvs epa im i lv vs b tb epb ps epp post n T u ah tah (fun w=>plF0 w R qd ah tah) .c0:=fun w=>by
 revert w
 refine vRowT (fun w=>segZ (stPl w) (some (.ref T)) (firstS (partS (stPl w) 0)) (fnEnv w 301 R.F [])) [n.led] (fun w=>(fun p hp=>List.mem_singleton.mp hp▸List.Mem.tail _ hm)) ?_ ?_
 ·exact fun w s N0 t0 G_ D_ I_=>
   .ui 0x60000200802000000001806018060180e0200805408020000200002008020150200800008000080200805408020000200002008000150001505415 (sGetHead n.at_ (ivs n.fs) n.ep (N0.add 3) (-1) (t0+3) (ivs ((f,uf)::r))) [11] [] (head_valid h h3 _) (inS (I_ _ (.tail _ hm))) tt fun x1 N1 t1=>
   .use 0x10200001c0001c07 (sL2 w R qd ah tah Sh.s0 Sh.c0 (PlV.mk t0 (iv i u) (t0+1) (Value.ref n.at_) 0 Value.none 0 Value.none) N1 x1 (ivs ((f,uf)::r)) 0 vs b tb epb (l2Post qd b (((f,uf)::r).map Prod.fst))) [0,2,9] [] [(1,x1,lst (ivs ((f,uf)::r)) 0)] (sL2F_valid R qd ah tah false f uf r (fun p hp=>hf p (by rw [h];exact iL hp)) vs hv _) (fun p hp=>.inr (iR hp)) fun x2 N2 t2 h2=>
   endQ D_ 0x4 (⟨(⟨t0,iv i u,t0+1,.ref n.at_,0,.none,0,.none⟩:PlV).fig x2.qf x2.fv,x2.b,x2.tb,x2.ep⟩:P1X) [0,3,6,9,12,15] [] [] fun s' O=>⟨(⟨(⟨t0,iv i u,t0+1,.ref n.at_,0,.none,0,.none⟩:PlV).fig x2.qf x2.fv,x2.b,x2.tb,x2.ep⟩:P1X),⟨rfl,p1_two qd b n hpre h2⟩,rfl,rfl,O.noGi⟩
 kernel_rfl
theorem p1a2_valid (hm:n.led∈im) (h3:n.fs.length<=1000) (hf:∀p∈n.fs,p.1<64) (hv:vs.length<=1000) (V:PlV) {f uf:Nat} {r:List (Nat×Nat)} {e ue:Nat} (h:n.fs=((f,uf)::r)++[(e,ue)]) (hpre:preN n.val=((f,uf)::r).map Prod.fst):P1Ok R qd nvs epa im i lv vs b tb epb ps epp post n T u ah tah (fun w=>plF w R qd ah tah .a V) .b:=fun w=>by
 revert w
 refine vRowT (fun w=>segZ (stPl w) (some (.ref T)) (firstS (partS (stPl w) 0)) (fnEnv w 301 R.F [])) [n.led] (fun w=>(fun p hp=>List.mem_singleton.mp hp▸List.Mem.tail _ hm)) ?_ ?_
 ·exact fun w s N0 t0 G_ D_ I_=>
   .ui 0x60000200802000000001806018060180e0200805408020000200002008020150200800008000080200805408020000200002008000150001505415 (sGetHead n.at_ (ivs n.fs) n.ep (N0.add 3) (-1) (t0+3) (ivs ((f,uf)::r))) [11] [] (head_valid h h3 _) (inS (I_ _ (.tail _ hm))) tt fun x1 N1 t1=>
   .use 0x10200001c0001c07 (sL2 w R qd ah tah Sh.a Sh.b (V.kn i u n) N1 x1 (ivs ((f,uf)::r)) 0 vs b tb epb (l2Post qd b (((f,uf)::r).map Prod.fst))) [0,2,9] [] [(1,x1,lst (ivs ((f,uf)::r)) 0)] (sL2F_valid R qd ah tah true f uf r (fun p hp=>hf p (by rw [h];exact iL hp)) vs hv _) (fun p hp=>.inr (iR hp)) fun x2 N2 t2 h2=>
   endQ D_ 0x4 (⟨(V.kn i u n).fig x2.qf x2.fv,x2.b,x2.tb,x2.ep⟩:P1X) [0,3,6,9,12,15] [] [] fun s' O=>⟨(⟨(V.kn i u n).fig x2.qf x2.fv,x2.b,x2.tb,x2.ep⟩:P1X),⟨rfl,p1_two qd b n hpre h2⟩,rfl,rfl,O.noGi⟩
 kernel_rfl
noncomputable def bcT:Bool->T3
 | false=>.y
 | true=>.z
theorem bcT_fig (t:Bool):(bcT t).fig=bcS t:=by cases t <;>rfl
theorem p1bc2_valid (hm:n.led∈im) (h3:n.fs.length<=1000) (hf:∀p∈n.fs,p.1<64) (hv:vs.length<=1000) (t:Bool) (V:PlV) {f uf:Nat} {r:List (Nat×Nat)} {e ue:Nat} (h:n.fs=((f,uf)::r)++[(e,ue)]) (hpre:preN n.val=((f,uf)::r).map Prod.fst):P1Ok R qd nvs epa im i lv vs b tb epb ps epp post n T u ah tah (fun w=>plF w R qd ah tah (bcS t) V) (bcS t):=fun w=>by
 have l2:∀(w:World) (V:PlV) (it2 y b tb ep:Nat),Vd w (sL2 w R qd ah tah (bcS t) (bcS t) V it2 y (ivs ((f,uf)::r)) 0 vs b tb ep (l2Post qd b (((f,uf)::r).map Prod.fst))):=fun w V it2 y b tb ep=>by
  rw [←bcT_fig]
  exact sL2_valid R qd ah tah (bcT t) it2 y ((f,uf)::r) (fun p hp=>hf p (by rw [h];exact iL hp)) vs hv _ w V 0 b tb ep rfl
 revert w t
 refine vFamTB (fun w t=>segZ (stPl w) (some (.ref T)) (firstS (partS (stPl w) 0)) (fnEnv w 301 R.F [])) _ bools [n.led] (fun _ _=>fun p hp=>List.mem_singleton.mp hp▸List.Mem.tail _ hm) ?_ ?_
 ·exact fun t l2 w s N0 t0 G_ D_ I_=>
   .ui 0x60000200802000000001806018060180e0200805408020000200002008020150200800008000080200805408020000200002008000150001505415 (sGetHead n.at_ (ivs n.fs) n.ep (N0.add 3) (-1) (t0+3) (ivs ((f,uf)::r))) [11] [] (head_valid h h3 _) (inS (I_ _ (.tail _ hm))) tt fun x1 N1 t1=>
   .use 0x10200001c0001c07 (sL2 w R qd ah tah (bcS t) (bcS t) (V.kn i u n) N1 x1 (ivs ((f,uf)::r)) 0 vs b tb epb (l2Post qd b (((f,uf)::r).map Prod.fst))) [0,2,9] [] [(1,x1,lst (ivs ((f,uf)::r)) 0)] (l2 _ _ _ _ _ _ _) (fun p hp=>.inr (iR hp)) fun x2 N2 t2 h2=>
   endQ D_ 0x4 (⟨(V.kn i u n).fig x2.qf x2.fv,x2.b,x2.tb,x2.ep⟩:P1X) [0,3,6,9,12,15] [] [] fun s' O=>⟨(⟨(V.kn i u n).fig x2.qf x2.fv,x2.b,x2.tb,x2.ep⟩:P1X),⟨rfl,p1_two qd b n hpre h2⟩,rfl,rfl,O.noGi⟩
 kernel_rfl
end
def T2 (w:World) (R:PlR):Sem PySem.Fin:=lastZ (stPl w) (.ref R.z) none (restS (partS (stPl w) 0)) (fnEnv w 301 R.F [])
noncomputable def T3.up:T3->T3
 | .x=>.y
 | t=>t
noncomputable def tfin:T3->List LN->T3
 | t,[]=>t
 | t,n::r=>tfin (if n.length=1 then t else t.up) r
def plPost (qd:Bool) (sg k ah b:Nat) (tf:T3) (rest:List LN):PlX->Prop:=fun x=>x.bi.map (·.1)++[x.b]=bkB qd sg 0 ah b rest/\x.ps.map (·.1)=bkP qd sg ah k rest/\x.t=tf
def PlIH (R:PlR) (qd:Bool) (nvs:LV) (epa:Nat) (im:Led) (i:Nat) (tf:T3) (rest:List LN):Prop:=∀(w:World) (t:T3) (V:PlV) (lv:Value) (vs:LV) (b tb epb:Nat) (ps:LV) (epp ah tah:Nat),vs.length<=i+1->ps.length<=i+1->tfin t rest=tf->
 Vd w (sPl w R qd nvs epa im (i+1) (plF w R qd ah tah t.run V) lv vs b tb epb ps epp (plPost qd R.sg (i+1) ah b tf rest))
noncomputable def shT:Sh->T3
 | .b=>.y
 | .c0=>.z
 | .c=>.z
 | _=>.x
noncomputable def shQ (t:Sh) (a b:Nat):Nat:=match t with
 | .s0=>a
 | .c0=>a
 | _=>b
theorem shs:∀t:Sh,t∈[Sh.s0,.a,.c0,.b,.c]:=fun t=>by cases t <;>simp
theorem shT_run (t:T3):shT t.run=t:=by cases t <;>rfl
theorem PlIH.cr {R:PlR} {qd:Bool} {nvs:LV} {epa:Nat} {im:Led} {i:Nat} {tf:T3} {rest:List LN} (ih:PlIH R qd nvs epa im i tf rest) {w:World} (t:Sh) {V:PlV} {lv:Value} {vs:LV} {b tb epb:Nat} {ps:LV} {epp ah tah:Nat} (h1:vs.length<=i+1) (h2:ps.length<=i+1) (ht:tfin (shT t) rest=tf):
  Vd w (sPl w R qd nvs epa im (i+1) (plF w R qd ah tah t.withRun V) lv vs b tb epb ps epp (plPost qd R.sg (i+1) ah b tf rest)):=by
 have z:=ih w (shT t) V lv vs b tb epb ps epp ah tah h1 h2 ht
 cases t <;>exact z
noncomputable def crT:Bool->T3
 | false=>.x
 | true=>.z
section
variable {R:PlR} {qd:Bool} {nvs:LV} {epa:Nat} {im:Led} {i:Nat} {lv:Value} {vs:LV} {b tb epb:Nat} {ps:LV} {epp:Nat} {n:Num} {T u ah tah:Nat} {tf:T3} {rest:List LN} {w:World} {fo:Obj} {sh:Sh} {y:P1X} {s s':Shared} {x:PlX} {li:Led} {b2 xa:Nat}
theorem lastI {r:List (Nat×Nat)} {e ue:Nat} (h:n.fs=r++[(e,ue)]) {w:World} {t:Nat}:Vd w (sGetIntI n.at_ (ivs n.fs) n.ep (-1) t (iv e ue)):=by
 have e2:ivs n.fs=ivs r++[iv e ue]:=by rw [h];simp [ivs]
 refine sGetIntI_valid (ivs r).length ?_ ?_ fits_m1
 ·rw [e2];exact seq_m1.1
 ·rw [e2];exact (seq_m1 (u:=iv e ue)).2
def p_lastI {w:World} {G:OblG} {gl:List (Nat×Code)} {bag:Led} (H_:Nat) {r:List (Nat×Nat)} (e ue:Nat) (h:n.fs=r++[(e,ue)]) (t:Nat) (hi_:∀p∈(sGetIntI n.at_ (ivs n.fs) n.ep (-1) t (iv e ue)).imm,p∈G.imm0\/p∈bag++ledOf []) (next:∀(_:(sGetIntI n.at_ (ivs n.fs) n.ep (-1) t (iv e ue)).Res) (_ _:Nat),Pf mask pw w G [] bag):Pf mask pw w G gl bag:=.ui H_ (sGetIntI n.at_ (ivs n.fs) n.ep (-1) t (iv e ue)) [] [] (lastI h) hi_ tt next
theorem inT (a:Nat):(32==a|| 9==a)=(a==32|| a==9):=by
 rw [Bool.eq_iff_iff];simp;lia
theorem p2_finP (hp:place qd R.sg ah n.val=true) (hb:b2=b+preSz qd n.val+(if qd=true then 0 else 1)) (hx:plPost qd R.sg (i+1) (lastN n.val) 1 tf rest x)
  (O:Out s s' ((sP2 w R qd nvs epa im i fo lv vs b tb epb ps epp (plPost qd R.sg i ah b tf (n.val::rest)) n T u ah tah sh y).need.map (·.1)) (rezip (sP2 w R qd nvs epa im i fo lv vs b tb epb ps epp (plPost qd R.sg i ah b tf (n.val::rest)) n T u ah tah sh y).need
   [plF w R qd x.ah x.tah x.t.run x.V,enumV .none R.it (Int.ofNat x.i) x.lv,iterE x.i,lst (((vs++[iv b2 xa])++ivs x.bi)++[iv x.b x.tb]) x.epb,lst ((ps++[iv i u])++ivs x.ps) x.epp]) [] li):
  Post (sP2 w R qd nvs epa im i fo lv vs b tb epb ps epp (plPost qd R.sg i ah b tf (n.val::rest)) n T u ah tah sh y) s (.ok .next) s':=by
 refine ⟨(⟨(b2,xa)::x.bi,x.b,x.tb,x.epb,(i,u)::x.ps,x.epp,x.ah,x.tah,x.t,x.V,x.i,x.lv⟩:PlX),⟨?_,?_,hx.2.2⟩,rfl,rfl,?_⟩
 ·show b2::(x.bi.map (·.1)++[x.b])=_
  rw [hx.1]
  unfold bkB
  rw [if_pos hp,hb]
  cases rest <;>rfl
 ·show i::x.ps.map (·.1)=_
  rw [hx.2.1]
  unfold bkP
  rw [if_pos hp]
  cases rest <;>rfl
 ·rw [List.append_assoc vs,List.append_assoc ps] at O
  exact O.noGi
theorem p2_finN (hp:¬place qd R.sg ah n.val=true) (hb:b2=b+preSz qd n.val+lastSz qd (lastN n.val)) (hx:plPost qd R.sg (i+1) (lastN n.val) b2 tf rest x)
  (O:Out s s' ((sP2 w R qd nvs epa im i fo lv vs b tb epb ps epp (plPost qd R.sg i ah b tf (n.val::rest)) n T u ah tah sh y).need.map (·.1)) (rezip (sP2 w R qd nvs epa im i fo lv vs b tb epb ps epp (plPost qd R.sg i ah b tf (n.val::rest)) n T u ah tah sh y).need
   [plF w R qd x.ah x.tah x.t.run x.V,enumV .none R.it (Int.ofNat x.i) x.lv,iterE x.i,lst ((vs++ivs x.bi)++[iv x.b x.tb]) x.epb,lst (ps++ivs x.ps) x.epp]) [] li):
  Post (sP2 w R qd nvs epa im i fo lv vs b tb epb ps epp (plPost qd R.sg i ah b tf (n.val::rest)) n T u ah tah sh y) s (.ok .next) s':=by
 refine ⟨x,⟨?_,?_,hx.2.2⟩,rfl,rfl,O.noGi⟩
 ·rw [hx.1]
  conv=>rhs;unfold bkB
  rw [if_neg hp,hb]
 ·rw [hx.2.1]
  conv=>rhs;unfold bkP
  rw [if_neg hp]
end
section
variable (R:PlR) (nvs:LV) (epa:Nat) (im:Led) (i:Nat) (lv:Value) (vs:LV) (b tb epb:Nat) (ps:LV) (epp:Nat) (n:Num) (T u ah tah:Nat) (tf:T3) (rest:List LN) (fo:World->Obj)
def P2Ok (qd:Bool) (sh:Sh) (x:P1X):Prop:=∀(w:World),OwnT w (sP2 w R qd nvs epa im i (fo w) lv vs b tb epb ps epp (plPost qd R.sg i ah b tf (n.val::rest)) n T u ah tah sh x) (T2 w R)
variable {R nvs epa im i lv vs b tb epb ps epp n T u ah tah tf rest fo} {V:PlV} {b1 tb1 eb1:Nat} (hm:n.led∈im) {r:List (Nat×Nat)} {e ue:Nat} (h:n.fs=r++[(e,ue)]) (he:lastN n.val=e) (hl:n.fs.length<=1000) (hi:i<=1000) (hv:vs.length<=i) (hps:ps.length<=i)
include hm h he hl hi hv hps
theorem p2T1P_valid (t:Sh) (ih:PlIH R true nvs epa im i tf rest) (ht:tfin (shT t) rest=tf) (hb1:b1=b+preSz true n.val) (hln:n.fs.length=1) (hr:(32==ah|| 9==ah)=false) (hs:e=R.sg):P2Ok R nvs epa im i lv vs b tb epb ps epp n T u ah tah tf rest fo true t ⟨V.kn i u n,b1,tb1,eb1⟩:=fun w=>by
 have hll:(ivs n.fs).length=n.fs.length:=ivs_len _
 have hp:place true R.sg ah n.val=true:=by unfold place;rw [he,hs,←inT ah,hr];simp
 have hb2:b1+0=b+preSz true n.val+(if true=true then 0 else 1):=by rw [hb1];rfl
 revert w t
 refine vFamTA (fun w t=>lastZ (stPl w) (.ref R.z) none (restS (partS (stPl w) 0)) (fnEnv w 301 R.F [])) _ shs [n.led] (fun _ _=>fun p hp=>List.mem_singleton.mp hp▸List.Mem.tail _ hm) ?_ ?_
 ·exact fun t ht w s N0 t0 G_ D_ I_=>
   .ui 0x4000180000006 (sLenI n.at_ (ivs n.fs) n.ep 1) [] [] (sLenI_valid (hll.trans hln) (by decide)) (inS (I_ _ (.tail _ hm))) tt fun x1 N1 t1=>
   piEq 0x400 1 x1 1 (t1+0) true rfl [] fun x2 N2 t2=>
   .u 0x4080000802006 (sInTup N2 32 (t2+0) 9 (t2+1) ah tah false) [2] [] (sInTup_valid hr) tt fun x3 N3 t3=>
   p_lastI 0x18000080200800000000601806 e ue h (t3+2) (inS (I_ _ (.tail _ hm))) fun x4 N4 t4=>
   piEq 0x100006 e ue R.sg R.tsg true (by simpa using hs) [] fun x5 N5 t5=>
   psGetInt 0x103c0003c0f0000001806 (Value.type "list") none R.bl (vs++[iv b1 tb1]) eb1 (-1) (t5+1) (iv b1 tb1) _ seq_m1.1 seq_m1.2 fits_m1 [9] [] fun x6 N6 t6=>
   piAdd 0x100006 b1 tb1 0 (t6+0) (b1+0) rfl [] fun x7 N7 t7=>
   psSetLast 0x103c0003c0f R.bl vs (iv b1 tb1) eb1 (t5+1) (iv (b1+0) x7) (by exact leX ‹_› ‹_› rfl) [9] [] fun x8 N8 t8=>
   psAppend 0x40f0000f03c0f03c06 (Value.type "list") none R.bl (vs++[iv (b1+0) x7]) x8 (iv 1 (t8+0)) (la (by lia)) [9] [] fun x9 N9 t9=>
   psAppend 0x104800018120481204806 (Value.type "list") none R.pl ps epp (iv i u) (by exact leX ‹_› ‹_› rfl) [12] [] fun x10 N10 t10=>
   p_lastI 0x180000802008000000006 e ue h (t10+1) (inS (I_ _ (.tail _ hm))) fun x11 N11 t11=>
   .uq 0x101806 (sPl w R true nvs epa im (i+1) (plF w R true e ue t.withRun ((V.kn i u n).run (shQ t (t3+0) V.qr) (Value.bool false))) (Value.ref n.at_) (vs++[iv (b1+0) x7]) 1 (t8+0) x9 (ps++[iv i u]) x10 (plPost true R.sg (i+1) e 1 tf rest)) [0,3,6,9,12] [] (ih.cr t (la (by lia)) (la (by lia)) ht) (inJ I_) tt fun x12 N12 t12 hx=>
   dn D_ 0x4 ((.ok .next)) [(0,R.F,plF w R true x12.ah x12.tah x12.t.run x12.V),(3,R.z,enumV .none R.it (Int.ofNat x12.i) x12.lv),(6,R.it,iterE x12.i),(9,R.bl,lst (((vs++[iv (b1+0) x7])++ivs x12.bi)++[iv x12.b x12.tb]) x12.epb),(12,R.pl,lst ((ps++[iv i u])++ivs x12.ps) x12.epp)] [] [] fun s' O=>p2_finP hp hb2 (by rw [he];exact hx) O
 kernel_rfl
theorem p2T1R_valid (t:Sh) (ih:PlIH R true nvs epa im i tf rest) (ht:tfin (shT t) rest=tf) (hb1:b1=b+preSz true n.val) (hln:n.fs.length=1) (hr:(32==ah|| 9==ah)=true) (hs:e=R.sg) (h34:e≠34):P2Ok R nvs epa im i lv vs b tb epb ps epp n T u ah tah tf rest fo true t ⟨V.kn i u n,b1,tb1,eb1⟩:=fun w=>by
 have hll:(ivs n.fs).length=n.fs.length:=ivs_len _
 have hln2:(n.val.length==1)=true:=by unfold Num.val;simpa using hln
 have hp:¬place true R.sg ah n.val=true:=by unfold place;rw [←inT ah,hr,hln2];simp
 have hb2:b1+1=b+preSz true n.val+lastSz true (lastN n.val):=by rw [hb1,he];unfold lastSz;simp [h34]
 revert w t
 refine vFamTA (fun w t=>lastZ (stPl w) (.ref R.z) none (restS (partS (stPl w) 0)) (fnEnv w 301 R.F [])) _ shs [n.led] (fun _ _=>fun p hp=>List.mem_singleton.mp hp▸List.Mem.tail _ hm) ?_ ?_
 ·exact fun t ht w s N0 t0 G_ D_ I_=>
   .ui 0x4000180000006 (sLenI n.at_ (ivs n.fs) n.ep 1) [] [] (sLenI_valid (hll.trans hln) (by decide)) (inS (I_ _ (.tail _ hm))) tt fun x1 N1 t1=>
   piEq 0x400 1 x1 1 (t1+0) true rfl [] fun x2 N2 t2=>
   .u 0x4080000802006 (sInTup N2 32 (t2+0) 9 (t2+1) ah tah true) [2] [] (sInTup_valid hr) tt fun x3 N3 t3=>
   p_lastI 0x18000080200800000000601806 e ue h (t3+2) (inS (I_ _ (.tail _ hm))) fun x4 N4 t4=>
   piEq 0x100006 e ue R.sg R.tsg true (by simpa using hs) [] fun x5 N5 t5=>
   psGetInt 0x103c0003c0f0000001806 (Value.type "list") none R.bl (vs++[iv b1 tb1]) eb1 (-1) (t5+1) (iv b1 tb1) _ seq_m1.1 seq_m1.2 fits_m1 [9] [] fun x6 N6 t6=>
   p_lastI 0x180000802008000000006 e ue h (t6+1) (inS (I_ _ (.tail _ hm))) fun x7 N7 t7=>
   piEq 0x400 e ue 34 (t7+0) false (by simpa using h34) [] fun x8 N8 t8=>
   piAdd 0x100006 b1 tb1 1 (t8+0) (b1+1) rfl [] fun x9 N9 t9=>
   psSetLast 0x103c0003c0f R.bl vs (iv b1 tb1) eb1 (t5+1) (iv (b1+1) x9) (by exact leX ‹_› ‹_› rfl) [9] [] fun x10 N10 t10=>
   p_lastI 0x180000802008000000006 e ue h (t10+1) (inS (I_ _ (.tail _ hm))) fun x11 N11 t11=>
   .uq 0x101806 (sPl w R true nvs epa im (i+1) (plF w R true e ue t.withRun ((V.kn i u n).run (shQ t (t3+0) V.qr) (Value.bool true))) (Value.ref n.at_) vs (b1+1) x9 x10 ps epp (plPost true R.sg (i+1) e (b1+1) tf rest)) [0,3,6,9,12] [] (ih.cr t (by exact .step ‹_›) (by exact .step ‹_›) ht) (inJ I_) tt fun x12 N12 t12 hx=>
   dn D_ 0x4 ((.ok .next)) [(0,R.F,plF w R true x12.ah x12.tah x12.t.run x12.V),(3,R.z,enumV .none R.it (Int.ofNat x12.i) x12.lv),(6,R.it,iterE x12.i),(9,R.bl,lst ((vs++ivs x12.bi)++[iv x12.b x12.tb]) x12.epb),(12,R.pl,lst (ps++ivs x12.ps) x12.epp)] [] [] fun s' O=>p2_finN hp hb2 (by rw [he];exact hx) O
 kernel_rfl
theorem p2T1H_valid (t:Sh) (ih:PlIH R true nvs epa im i tf rest) (ht:tfin (shT t) rest=tf) (hb1:b1=b+preSz true n.val) (hln:n.fs.length=1) (hs:e≠R.sg) (h34:e=34):P2Ok R nvs epa im i lv vs b tb epb ps epp n T u ah tah tf rest fo true t ⟨V.kn i u n,b1,tb1,eb1⟩:=fun w=>by
 have hll:(ivs n.fs).length=n.fs.length:=ivs_len _
 have hp:¬place true R.sg ah n.val=true:=by unfold place;rw [he];simp [hs]
 have hb2:b1+2=b+preSz true n.val+lastSz true (lastN n.val):=by rw [hb1,he];unfold lastSz;simp [h34]
 revert w t
 refine vFamTA (fun w t=>lastZ (stPl w) (.ref R.z) none (restS (partS (stPl w) 0)) (fnEnv w 301 R.F [])) _ shs [n.led] (fun _ _=>fun p hp=>List.mem_singleton.mp hp▸List.Mem.tail _ hm) ?_ ?_
 ·exact fun t ht w s N0 t0 G_ D_ I_=>
   .ui 0x4000180000006 (sLenI n.at_ (ivs n.fs) n.ep 1) [] [] (sLenI_valid (hll.trans hln) (by decide)) (inS (I_ _ (.tail _ hm))) tt fun x1 N1 t1=>
   piEq 0x400 1 x1 1 (t1+0) true rfl [] fun x2 N2 t2=>
   .u 0x4080000802006 (sInTup N2 32 (t2+0) 9 (t2+1) ah tah (32==ah|| 9==ah)) [2] [] (sInTup_valid rfl) tt fun x3 N3 t3=>
   p_lastI 0x18000080200800000000601806 e ue h (t3+2) (inS (I_ _ (.tail _ hm))) fun x4 N4 t4=>
   piEq 0x100006 e ue R.sg R.tsg false (by simpa using hs) [] fun x5 N5 t5=>
   psGetInt 0x40f0000f03c0000006 (Value.type "list") none R.bl (vs++[iv b1 tb1]) eb1 (-1) (t5+1) (iv b1 tb1) _ seq_m1.1 seq_m1.2 fits_m1 [9] [] fun x6 N6 t6=>
   p_lastI 0x180000802008000000006 e ue h (t6+1) (inS (I_ _ (.tail _ hm))) fun x7 N7 t7=>
   piEq 0x400 e ue 34 (t7+0) true (by simpa using h34) [] fun x8 N8 t8=>
   piAdd 0x400 b1 tb1 2 (t8+0) (b1+2) rfl [] fun x9 N9 t9=>
   psSetLast 0x103c0003c0f R.bl vs (iv b1 tb1) eb1 (t5+1) (iv (b1+2) x9) (by exact leX ‹_› ‹_› rfl) [9] [] fun x10 N10 t10=>
   p_lastI 0x180000802008000000006 e ue h (t10+1) (inS (I_ _ (.tail _ hm))) fun x11 N11 t11=>
   .uq 0x101806 (sPl w R true nvs epa im (i+1) (plF w R true e ue t.withRun ((V.kn i u n).run (shQ t (t3+0) V.qr) (Value.bool (32==ah|| 9==ah)))) (Value.ref n.at_) vs (b1+2) x9 x10 ps epp (plPost true R.sg (i+1) e (b1+2) tf rest)) [0,3,6,9,12] [] (ih.cr t (by exact .step ‹_›) (by exact .step ‹_›) ht) (inJ I_) tt fun x12 N12 t12 hx=>
   dn D_ 0x4 ((.ok .next)) [(0,R.F,plF w R true x12.ah x12.tah x12.t.run x12.V),(3,R.z,enumV .none R.it (Int.ofNat x12.i) x12.lv),(6,R.it,iterE x12.i),(9,R.bl,lst ((vs++ivs x12.bi)++[iv x12.b x12.tb]) x12.epb),(12,R.pl,lst (ps++ivs x12.ps) x12.epp)] [] [] fun s' O=>p2_finN hp hb2 (by rw [he];exact hx) O
 kernel_rfl
theorem p2T1O_valid (t:Sh) (ih:PlIH R true nvs epa im i tf rest) (ht:tfin (shT t) rest=tf) (hb1:b1=b+preSz true n.val) (hln:n.fs.length=1) (hs:e≠R.sg) (h34:e≠34):P2Ok R nvs epa im i lv vs b tb epb ps epp n T u ah tah tf rest fo true t ⟨V.kn i u n,b1,tb1,eb1⟩:=fun w=>by
 have hll:(ivs n.fs).length=n.fs.length:=ivs_len _
 have hp:¬place true R.sg ah n.val=true:=by unfold place;rw [he];simp [hs]
 have hb2:b1+1=b+preSz true n.val+lastSz true (lastN n.val):=by rw [hb1,he];unfold lastSz;simp [h34]
 revert w t
 refine vFamTA (fun w t=>lastZ (stPl w) (.ref R.z) none (restS (partS (stPl w) 0)) (fnEnv w 301 R.F [])) _ shs [n.led] (fun _ _=>fun p hp=>List.mem_singleton.mp hp▸List.Mem.tail _ hm) ?_ ?_
 ·exact fun t ht w s N0 t0 G_ D_ I_=>
   .ui 0x4000180000006 (sLenI n.at_ (ivs n.fs) n.ep 1) [] [] (sLenI_valid (hll.trans hln) (by decide)) (inS (I_ _ (.tail _ hm))) tt fun x1 N1 t1=>
   piEq 0x400 1 x1 1 (t1+0) true rfl [] fun x2 N2 t2=>
   .u 0x4080000802006 (sInTup N2 32 (t2+0) 9 (t2+1) ah tah (32==ah|| 9==ah)) [2] [] (sInTup_valid rfl) tt fun x3 N3 t3=>
   p_lastI 0x18000080200800000000601806 e ue h (t3+2) (inS (I_ _ (.tail _ hm))) fun x4 N4 t4=>
   piEq 0x100006 e ue R.sg R.tsg false (by simpa using hs) [] fun x5 N5 t5=>
   psGetInt 0x40f0000f03c0000006 (Value.type "list") none R.bl (vs++[iv b1 tb1]) eb1 (-1) (t5+1) (iv b1 tb1) _ seq_m1.1 seq_m1.2 fits_m1 [9] [] fun x6 N6 t6=>
   p_lastI 0x180000802008000000006 e ue h (t6+1) (inS (I_ _ (.tail _ hm))) fun x7 N7 t7=>
   piEq 0x400 e ue 34 (t7+0) false (by simpa using h34) [] fun x8 N8 t8=>
   piAdd 0x100006 b1 tb1 1 (t8+0) (b1+1) rfl [] fun x9 N9 t9=>
   psSetLast 0x103c0003c0f R.bl vs (iv b1 tb1) eb1 (t5+1) (iv (b1+1) x9) (by exact leX ‹_› ‹_› rfl) [9] [] fun x10 N10 t10=>
   p_lastI 0x180000802008000000006 e ue h (t10+1) (inS (I_ _ (.tail _ hm))) fun x11 N11 t11=>
   .uq 0x101806 (sPl w R true nvs epa im (i+1) (plF w R true e ue t.withRun ((V.kn i u n).run (shQ t (t3+0) V.qr) (Value.bool (32==ah|| 9==ah)))) (Value.ref n.at_) vs (b1+1) x9 x10 ps epp (plPost true R.sg (i+1) e (b1+1) tf rest)) [0,3,6,9,12] [] (ih.cr t (by exact .step ‹_›) (by exact .step ‹_›) ht) (inJ I_) tt fun x12 N12 t12 hx=>
   dn D_ 0x4 ((.ok .next)) [(0,R.F,plF w R true x12.ah x12.tah x12.t.run x12.V),(3,R.z,enumV .none R.it (Int.ofNat x12.i) x12.lv),(6,R.it,iterE x12.i),(9,R.bl,lst ((vs++ivs x12.bi)++[iv x12.b x12.tb]) x12.epb),(12,R.pl,lst (ps++ivs x12.ps) x12.epp)] [] [] fun s' O=>p2_finN hp hb2 (by rw [he];exact hx) O
 kernel_rfl
theorem p2T2P_valid (t:Sh) (ih:PlIH R true nvs epa im i tf rest) (ht:tfin (shT t) rest=tf) (hb1:b1=b+preSz true n.val) (hln:n.fs.length≠1) (hs:e=R.sg):P2Ok R nvs epa im i lv vs b tb epb ps epp n T u ah tah tf rest fo true t ⟨V.kn i u n,b1,tb1,eb1⟩:=fun w=>by
 have hll:(ivs n.fs).length=n.fs.length:=ivs_len _
 have hln2:(n.val.length==1)=false:=by unfold Num.val;simpa using hln
 have hp:place true R.sg ah n.val=true:=by unfold place;rw [he,hs,hln2];simp
 have hb2:b1+0=b+preSz true n.val+(if true=true then 0 else 1):=by rw [hb1];rfl
 revert w t
 refine vFamTA (fun w t=>lastZ (stPl w) (.ref R.z) none (restS (partS (stPl w) 0)) (fnEnv w 301 R.F [])) _ shs [n.led] (fun _ _=>fun p hp=>List.mem_singleton.mp hp▸List.Mem.tail _ hm) ?_ ?_
 ·exact fun t ht w s N0 t0 G_ D_ I_=>
   .ui 0x4000180000006 (sLenI n.at_ (ivs n.fs) n.ep n.fs.length) [] [] (sLenI_valid hll (by exact leT ‹_› rfl)) (inS (I_ _ (.tail _ hm))) tt fun x1 N1 t1=>
   piEq 0x400 n.fs.length x1 1 (t1+0) false (by simpa using hln) [] fun x2 N2 t2=>
   p_lastI 0x18000080200800000000601806 e ue h (t2+2) (inS (I_ _ (.tail _ hm))) fun x3 N3 t3=>
   piEq 0x100006 e ue R.sg R.tsg true (by simpa using hs) [] fun x4 N4 t4=>
   psGetInt 0x103c0003c0f0000001806 (Value.type "list") none R.bl (vs++[iv b1 tb1]) eb1 (-1) (t4+1) (iv b1 tb1) _ seq_m1.1 seq_m1.2 fits_m1 [9] [] fun x5 N5 t5=>
   piAdd 0x100006 b1 tb1 0 (t5+0) (b1+0) rfl [] fun x6 N6 t6=>
   psSetLast 0x103c0003c0f R.bl vs (iv b1 tb1) eb1 (t4+1) (iv (b1+0) x6) (by exact leX ‹_› ‹_› rfl) [9] [] fun x7 N7 t7=>
   psAppend 0x40f0000f03c0f03c06 (Value.type "list") none R.bl (vs++[iv (b1+0) x6]) x7 (iv 1 (t7+0)) (la (by lia)) [9] [] fun x8 N8 t8=>
   psAppend 0x104800018120481204806 (Value.type "list") none R.pl ps epp (iv i u) (by exact leX ‹_› ‹_› rfl) [12] [] fun x9 N9 t9=>
   p_lastI 0x180000802008000000006 e ue h (t9+1) (inS (I_ _ (.tail _ hm))) fun x10 N10 t10=>
   .uq 0x101806 (sPl w R true nvs epa im (i+1) (plF w R true e ue t.withRun ((V.kn i u n).run (shQ t (t2+0) V.qr) (Value.bool false))) (Value.ref n.at_) (vs++[iv (b1+0) x6]) 1 (t7+0) x8 (ps++[iv i u]) x9 (plPost true R.sg (i+1) e 1 tf rest)) [0,3,6,9,12] [] (ih.cr t (la (by lia)) (la (by lia)) ht) (inJ I_) tt fun x11 N11 t11 hx=>
   dn D_ 0x4 ((.ok .next)) [(0,R.F,plF w R true x11.ah x11.tah x11.t.run x11.V),(3,R.z,enumV .none R.it (Int.ofNat x11.i) x11.lv),(6,R.it,iterE x11.i),(9,R.bl,lst (((vs++[iv (b1+0) x6])++ivs x11.bi)++[iv x11.b x11.tb]) x11.epb),(12,R.pl,lst ((ps++[iv i u])++ivs x11.ps) x11.epp)] [] [] fun s' O=>p2_finP hp hb2 (by rw [he];exact hx) O
 kernel_rfl
theorem p2T2H_valid (t:Sh) (ih:PlIH R true nvs epa im i tf rest) (ht:tfin (shT t) rest=tf) (hb1:b1=b+preSz true n.val) (hln:n.fs.length≠1) (hs:e≠R.sg) (h34:e=34):P2Ok R nvs epa im i lv vs b tb epb ps epp n T u ah tah tf rest fo true t ⟨V.kn i u n,b1,tb1,eb1⟩:=fun w=>by
 have hll:(ivs n.fs).length=n.fs.length:=ivs_len _
 have hp:¬place true R.sg ah n.val=true:=by unfold place;rw [he];simp [hs]
 have hb2:b1+2=b+preSz true n.val+lastSz true (lastN n.val):=by rw [hb1,he];unfold lastSz;simp [h34]
 revert w t
 refine vFamTA (fun w t=>lastZ (stPl w) (.ref R.z) none (restS (partS (stPl w) 0)) (fnEnv w 301 R.F [])) _ shs [n.led] (fun _ _=>fun p hp=>List.mem_singleton.mp hp▸List.Mem.tail _ hm) ?_ ?_
 ·exact fun t ht w s N0 t0 G_ D_ I_=>
   .ui 0x4000180000006 (sLenI n.at_ (ivs n.fs) n.ep n.fs.length) [] [] (sLenI_valid hll (by exact leT ‹_› rfl)) (inS (I_ _ (.tail _ hm))) tt fun x1 N1 t1=>
   piEq 0x400 n.fs.length x1 1 (t1+0) false (by simpa using hln) [] fun x2 N2 t2=>
   p_lastI 0x18000080200800000000601806 e ue h (t2+2) (inS (I_ _ (.tail _ hm))) fun x3 N3 t3=>
   piEq 0x100006 e ue R.sg R.tsg false (by simpa using hs) [] fun x4 N4 t4=>
   psGetInt 0x40f0000f03c0000006 (Value.type "list") none R.bl (vs++[iv b1 tb1]) eb1 (-1) (t4+1) (iv b1 tb1) _ seq_m1.1 seq_m1.2 fits_m1 [9] [] fun x5 N5 t5=>
   p_lastI 0x180000802008000000006 e ue h (t5+1) (inS (I_ _ (.tail _ hm))) fun x6 N6 t6=>
   piEq 0x400 e ue 34 (t6+0) true (by simpa using h34) [] fun x7 N7 t7=>
   piAdd 0x400 b1 tb1 2 (t7+0) (b1+2) rfl [] fun x8 N8 t8=>
   psSetLast 0x103c0003c0f R.bl vs (iv b1 tb1) eb1 (t4+1) (iv (b1+2) x8) (by exact leX ‹_› ‹_› rfl) [9] [] fun x9 N9 t9=>
   p_lastI 0x180000802008000000006 e ue h (t9+1) (inS (I_ _ (.tail _ hm))) fun x10 N10 t10=>
   .uq 0x101806 (sPl w R true nvs epa im (i+1) (plF w R true e ue t.withRun ((V.kn i u n).run (shQ t (t2+0) V.qr) (Value.bool false))) (Value.ref n.at_) vs (b1+2) x8 x9 ps epp (plPost true R.sg (i+1) e (b1+2) tf rest)) [0,3,6,9,12] [] (ih.cr t (by exact .step ‹_›) (by exact .step ‹_›) ht) (inJ I_) tt fun x11 N11 t11 hx=>
   dn D_ 0x4 ((.ok .next)) [(0,R.F,plF w R true x11.ah x11.tah x11.t.run x11.V),(3,R.z,enumV .none R.it (Int.ofNat x11.i) x11.lv),(6,R.it,iterE x11.i),(9,R.bl,lst ((vs++ivs x11.bi)++[iv x11.b x11.tb]) x11.epb),(12,R.pl,lst (ps++ivs x11.ps) x11.epp)] [] [] fun s' O=>p2_finN hp hb2 (by rw [he];exact hx) O
 kernel_rfl
theorem p2T2O_valid (t:Sh) (ih:PlIH R true nvs epa im i tf rest) (ht:tfin (shT t) rest=tf) (hb1:b1=b+preSz true n.val) (hln:n.fs.length≠1) (hs:e≠R.sg) (h34:e≠34):P2Ok R nvs epa im i lv vs b tb epb ps epp n T u ah tah tf rest fo true t ⟨V.kn i u n,b1,tb1,eb1⟩:=fun w=>by
 have hll:(ivs n.fs).length=n.fs.length:=ivs_len _
 have hp:¬place true R.sg ah n.val=true:=by unfold place;rw [he];simp [hs]
 have hb2:b1+1=b+preSz true n.val+lastSz true (lastN n.val):=by rw [hb1,he];unfold lastSz;simp [h34]
 revert w t
 refine vFamTA (fun w t=>lastZ (stPl w) (.ref R.z) none (restS (partS (stPl w) 0)) (fnEnv w 301 R.F [])) _ shs [n.led] (fun _ _=>fun p hp=>List.mem_singleton.mp hp▸List.Mem.tail _ hm) ?_ ?_
 ·exact fun t ht w s N0 t0 G_ D_ I_=>
   .ui 0x4000180000006 (sLenI n.at_ (ivs n.fs) n.ep n.fs.length) [] [] (sLenI_valid hll (by exact leT ‹_› rfl)) (inS (I_ _ (.tail _ hm))) tt fun x1 N1 t1=>
   piEq 0x400 n.fs.length x1 1 (t1+0) false (by simpa using hln) [] fun x2 N2 t2=>
   p_lastI 0x18000080200800000000601806 e ue h (t2+2) (inS (I_ _ (.tail _ hm))) fun x3 N3 t3=>
   piEq 0x100006 e ue R.sg R.tsg false (by simpa using hs) [] fun x4 N4 t4=>
   psGetInt 0x40f0000f03c0000006 (Value.type "list") none R.bl (vs++[iv b1 tb1]) eb1 (-1) (t4+1) (iv b1 tb1) _ seq_m1.1 seq_m1.2 fits_m1 [9] [] fun x5 N5 t5=>
   p_lastI 0x180000802008000000006 e ue h (t5+1) (inS (I_ _ (.tail _ hm))) fun x6 N6 t6=>
   piEq 0x400 e ue 34 (t6+0) false (by simpa using h34) [] fun x7 N7 t7=>
   piAdd 0x100006 b1 tb1 1 (t7+0) (b1+1) rfl [] fun x8 N8 t8=>
   psSetLast 0x103c0003c0f R.bl vs (iv b1 tb1) eb1 (t4+1) (iv (b1+1) x8) (by exact leX ‹_› ‹_› rfl) [9] [] fun x9 N9 t9=>
   p_lastI 0x180000802008000000006 e ue h (t9+1) (inS (I_ _ (.tail _ hm))) fun x10 N10 t10=>
   .uq 0x101806 (sPl w R true nvs epa im (i+1) (plF w R true e ue t.withRun ((V.kn i u n).run (shQ t (t2+0) V.qr) (Value.bool false))) (Value.ref n.at_) vs (b1+1) x8 x9 ps epp (plPost true R.sg (i+1) e (b1+1) tf rest)) [0,3,6,9,12] [] (ih.cr t (by exact .step ‹_›) (by exact .step ‹_›) ht) (inJ I_) tt fun x11 N11 t11 hx=>
   dn D_ 0x4 ((.ok .next)) [(0,R.F,plF w R true x11.ah x11.tah x11.t.run x11.V),(3,R.z,enumV .none R.it (Int.ofNat x11.i) x11.lv),(6,R.it,iterE x11.i),(9,R.bl,lst ((vs++ivs x11.bi)++[iv x11.b x11.tb]) x11.epb),(12,R.pl,lst (ps++ivs x11.ps) x11.epp)] [] [] fun s' O=>p2_finN hp hb2 (by rw [he];exact hx) O
 kernel_rfl
theorem p2FP_valid (t:Sh) (ih:PlIH R false nvs epa im i tf rest) (ht:tfin (shT t) rest=tf) (hb1:b1=b+preSz false n.val) (hs:e=R.sg):P2Ok R nvs epa im i lv vs b tb epb ps epp n T u ah tah tf rest fo false t ⟨V.kn i u n,b1,tb1,eb1⟩:=fun w=>by
 have hll:(ivs n.fs).length=n.fs.length:=ivs_len _
 have hp:place false R.sg ah n.val=true:=by unfold place;rw [he,hs];simp
 have hb2:b1+1=b+preSz false n.val+(if false=true then 0 else 1):=by rw [hb1];rfl
 revert w t
 refine vFamTA (fun w t=>lastZ (stPl w) (.ref R.z) none (restS (partS (stPl w) 0)) (fnEnv w 301 R.F [])) _ shs [n.led] (fun _ _=>fun p hp=>List.mem_singleton.mp hp▸List.Mem.tail _ hm) ?_ ?_
 ·exact fun t ht w s N0 t0 G_ D_ I_=>
   p_lastI 0x6000020080200000000180601806 e ue h (t0+2) (inS (I_ _ (.tail _ hm))) fun x1 N1 t1=>
   piEq 0x100006 e ue R.sg R.tsg true (by simpa using hs) [] fun x2 N2 t2=>
   psGetInt 0x103c0003c0f0000001806 (Value.type "list") none R.bl (vs++[iv b1 tb1]) eb1 (-1) (t2+1) (iv b1 tb1) _ seq_m1.1 seq_m1.2 fits_m1 [9] [] fun x3 N3 t3=>
   piAdd 0x100006 b1 tb1 1 (t3+0) (b1+1) rfl [] fun x4 N4 t4=>
   psSetLast 0x103c0003c0f R.bl vs (iv b1 tb1) eb1 (t2+1) (iv (b1+1) x4) (by exact leX ‹_› ‹_› rfl) [9] [] fun x5 N5 t5=>
   psAppend 0x40f0000f03c0f03c06 (Value.type "list") none R.bl (vs++[iv (b1+1) x4]) x5 (iv 1 (t5+0)) (la (by lia)) [9] [] fun x6 N6 t6=>
   psAppend 0x104800018120481204806 (Value.type "list") none R.pl ps epp (iv i u) (by exact leX ‹_› ‹_› rfl) [12] [] fun x7 N7 t7=>
   p_lastI 0x180000802008000000006 e ue h (t7+1) (inS (I_ _ (.tail _ hm))) fun x8 N8 t8=>
   .uq 0x101806 (sPl w R false nvs epa im (i+1) (plF w R false e ue t.withRun ((V.kn i u n).run (shQ t (t0+0) V.qr) (Value.bool false))) (Value.ref n.at_) (vs++[iv (b1+1) x4]) 1 (t5+0) x6 (ps++[iv i u]) x7 (plPost false R.sg (i+1) e 1 tf rest)) [0,3,6,9,12] [] (ih.cr t (la (by lia)) (la (by lia)) ht) (inJ I_) tt fun x9 N9 t9 hx=>
   dn D_ 0x4 ((.ok .next)) [(0,R.F,plF w R false x9.ah x9.tah x9.t.run x9.V),(3,R.z,enumV .none R.it (Int.ofNat x9.i) x9.lv),(6,R.it,iterE x9.i),(9,R.bl,lst (((vs++[iv (b1+1) x4])++ivs x9.bi)++[iv x9.b x9.tb]) x9.epb),(12,R.pl,lst ((ps++[iv i u])++ivs x9.ps) x9.epp)] [] [] fun s' O=>p2_finP hp hb2 (by rw [he];exact hx) O
 kernel_rfl
theorem p2FH_valid (t:Sh) (ih:PlIH R false nvs epa im i tf rest) (ht:tfin (shT t) rest=tf) (hb1:b1=b+preSz false n.val) (hs:e≠R.sg) (h34:e=34):P2Ok R nvs epa im i lv vs b tb epb ps epp n T u ah tah tf rest fo false t ⟨V.kn i u n,b1,tb1,eb1⟩:=fun w=>by
 have hll:(ivs n.fs).length=n.fs.length:=ivs_len _
 have hp:¬place false R.sg ah n.val=true:=by unfold place;rw [he];simp [hs]
 have hb2:b1+2=b+preSz false n.val+lastSz false (lastN n.val):=by rw [hb1,he];unfold lastSz;simp []
 revert w t
 refine vFamTA (fun w t=>lastZ (stPl w) (.ref R.z) none (restS (partS (stPl w) 0)) (fnEnv w 301 R.F [])) _ shs [n.led] (fun _ _=>fun p hp=>List.mem_singleton.mp hp▸List.Mem.tail _ hm) ?_ ?_
 ·exact fun t ht w s N0 t0 G_ D_ I_=>
   p_lastI 0x6000020080200000000180601806 e ue h (t0+2) (inS (I_ _ (.tail _ hm))) fun x1 N1 t1=>
   piEq 0x100006 e ue R.sg R.tsg false (by simpa using hs) [] fun x2 N2 t2=>
   psGetInt 0x40f0000f03c0000006 (Value.type "list") none R.bl (vs++[iv b1 tb1]) eb1 (-1) (t2+1) (iv b1 tb1) _ seq_m1.1 seq_m1.2 fits_m1 [9] [] fun x3 N3 t3=>
   p_lastI 0x180000802008000000006 e ue h (t3+1) (inS (I_ _ (.tail _ hm))) fun x4 N4 t4=>
   piEq 0x400 e ue 34 (t4+0) true (by simpa using h34) [] fun x5 N5 t5=>
   piAdd 0x400 b1 tb1 2 (t5+0) (b1+2) rfl [] fun x6 N6 t6=>
   psSetLast 0x103c0003c0f R.bl vs (iv b1 tb1) eb1 (t2+1) (iv (b1+2) x6) (by exact leX ‹_› ‹_› rfl) [9] [] fun x7 N7 t7=>
   p_lastI 0x180000802008000000006 e ue h (t7+1) (inS (I_ _ (.tail _ hm))) fun x8 N8 t8=>
   .uq 0x101806 (sPl w R false nvs epa im (i+1) (plF w R false e ue t.withRun ((V.kn i u n).run (shQ t (t0+0) V.qr) (Value.bool false))) (Value.ref n.at_) vs (b1+2) x6 x7 ps epp (plPost false R.sg (i+1) e (b1+2) tf rest)) [0,3,6,9,12] [] (ih.cr t (by exact .step ‹_›) (by exact .step ‹_›) ht) (inJ I_) tt fun x9 N9 t9 hx=>
   dn D_ 0x4 ((.ok .next)) [(0,R.F,plF w R false x9.ah x9.tah x9.t.run x9.V),(3,R.z,enumV .none R.it (Int.ofNat x9.i) x9.lv),(6,R.it,iterE x9.i),(9,R.bl,lst ((vs++ivs x9.bi)++[iv x9.b x9.tb]) x9.epb),(12,R.pl,lst (ps++ivs x9.ps) x9.epp)] [] [] fun s' O=>p2_finN hp hb2 (by rw [he];exact hx) O
 kernel_rfl
theorem p2FO_valid (t:Sh) (ih:PlIH R false nvs epa im i tf rest) (ht:tfin (shT t) rest=tf) (hb1:b1=b+preSz false n.val) (hs:e≠R.sg) (h34:e≠34):P2Ok R nvs epa im i lv vs b tb epb ps epp n T u ah tah tf rest fo false t ⟨V.kn i u n,b1,tb1,eb1⟩:=fun w=>by
 have hll:(ivs n.fs).length=n.fs.length:=ivs_len _
 have hp:¬place false R.sg ah n.val=true:=by unfold place;rw [he];simp [hs]
 have hb2:b1+2=b+preSz false n.val+lastSz false (lastN n.val):=by rw [hb1,he];unfold lastSz;simp []
 revert w t
 refine vFamTA (fun w t=>lastZ (stPl w) (.ref R.z) none (restS (partS (stPl w) 0)) (fnEnv w 301 R.F [])) _ shs [n.led] (fun _ _=>fun p hp=>List.mem_singleton.mp hp▸List.Mem.tail _ hm) ?_ ?_
 ·exact fun t ht w s N0 t0 G_ D_ I_=>
   p_lastI 0x6000020080200000000180601806 e ue h (t0+2) (inS (I_ _ (.tail _ hm))) fun x1 N1 t1=>
   piEq 0x100006 e ue R.sg R.tsg false (by simpa using hs) [] fun x2 N2 t2=>
   psGetInt 0x40f0000f03c0000006 (Value.type "list") none R.bl (vs++[iv b1 tb1]) eb1 (-1) (t2+1) (iv b1 tb1) _ seq_m1.1 seq_m1.2 fits_m1 [9] [] fun x3 N3 t3=>
   p_lastI 0x180000802008000000006 e ue h (t3+1) (inS (I_ _ (.tail _ hm))) fun x4 N4 t4=>
   piEq 0x400 e ue 34 (t4+0) false (by simpa using h34) [] fun x5 N5 t5=>
   piAdd 0x100006 b1 tb1 2 (t5+0) (b1+2) rfl [] fun x6 N6 t6=>
   psSetLast 0x103c0003c0f R.bl vs (iv b1 tb1) eb1 (t2+1) (iv (b1+2) x6) (by exact leX ‹_› ‹_› rfl) [9] [] fun x7 N7 t7=>
   p_lastI 0x180000802008000000006 e ue h (t7+1) (inS (I_ _ (.tail _ hm))) fun x8 N8 t8=>
   .uq 0x101806 (sPl w R false nvs epa im (i+1) (plF w R false e ue t.withRun ((V.kn i u n).run (shQ t (t0+0) V.qr) (Value.bool false))) (Value.ref n.at_) vs (b1+2) x6 x7 ps epp (plPost false R.sg (i+1) e (b1+2) tf rest)) [0,3,6,9,12] [] (ih.cr t (by exact .step ‹_›) (by exact .step ‹_›) ht) (inJ I_) tt fun x9 N9 t9 hx=>
   dn D_ 0x4 ((.ok .next)) [(0,R.F,plF w R false x9.ah x9.tah x9.t.run x9.V),(3,R.z,enumV .none R.it (Int.ofNat x9.i) x9.lv),(6,R.it,iterE x9.i),(9,R.bl,lst ((vs++ivs x9.bi)++[iv x9.b x9.tb]) x9.epb),(12,R.pl,lst (ps++ivs x9.ps) x9.epp)] [] [] fun s' O=>p2_finN hp hb2 (by rw [he];exact hx) O
 kernel_rfl
end
theorem isTupPl {w:World}:isTupFor (stPl w)=true:=by kernel_rfl
theorem first_rest:∀l:List Stmt,l=firstS l++restS l
 | []=>rfl
 | _::_=>rfl
section
variable (R:PlR) (qd:Bool) (nvs:LV) (epa:Nat) (im:Led) (i:Nat) (lv:Value) (vs:LV) (b tb epb:Nat) (ps:LV) (epp:Nat) (n:Num) (ah tah:Nat) (tf:T3) (rest:List LN) (fo:World->Obj)
theorem sPl_turn (w:World) (sh:Sh) (h1:nvs[i]? =some (.ref n.at_))
  (H1:∀T u,P1Ok R qd nvs epa im i lv vs b tb epb ps epp (plPost qd R.sg i ah b tf (n.val::rest)) n T u ah tah fo sh)
  (H2:∀T u (V:PlV) (b1 tb1 eb1:Nat),b1=b+preSz qd n.val->P2Ok R nvs epa im i lv vs b tb epb ps epp n T u ah tah tf rest fo qd sh ⟨V.kn i u n,b1,tb1,eb1⟩):
  Vd w (sPl w R qd nvs epa im i (fo w) lv vs b tb epb ps epp (plPost qd R.sg i ah b tf (n.val::rest))):=by
 refine valid_turnX (w:=w) (S:=sPl w R qd nvs epa im i (fo w) lv vs b tb epb ps epp (plPost qd R.sg i ah b tf (n.val::rest))) (st:=stPl w) (z:=R.z) (env:=fnEnv w 301 R.F [])
  (Res1:=Nat×Nat) (post1:=fun _=>True) (a:=fun y=>y.1) (upd1:=fun y=>plU R (i+1) (fo w) (.int (Int.ofNat y.1) 0) (.ref n.at_) vs b tb epb ps epp) (new1:=fun y=>[(y.1,tup [iv i y.2,.ref n.at_])])
  (fun _=>plU R (i+1) (fo w) .none (.ref n.at_) vs b tb epb ps epp) (fun y=>enumV (.int (Int.ofNat y.1) 0) R.it (Int.ofNat (i+1)) (.ref n.at_)) (fun _=>enumV .none R.it (Int.ofNat (i+1)) (.ref n.at_))
  (isTupPl) rfl rfl (fun _=>rfl) (fun y s A Q E es k tp h hQ=>go_enum y.1 s A Q E es k tp h hQ) (fun x=>?_) 1 rfl (fun _=>rfl) ?_ ?_ (fun y _=>?_)
 ·simp [sPl,plU,rezip]
 ·simp [sPl]
 ·revert w
  refine vRowT (fun w=>headZ (stPl w) (.ref R.z)) [] roNil ?_ ?_
  ·exact fun w s N0 t0 G_ D_ I_=>
    psItNI 0x103000030090000900009 R.it R.a i (Value.type "list") none nvs epa (Value.ref n.at_) h1 [6] [] (inS (I_ _ (.head _))) fun x1 N1 t1=>
    endQ D_ 0x402409024090240902409024090240902409 (N1,t1) [0,3,6,9,12] [2] [] fun s' O=>⟨(N1,t1),trivial,rfl,rfl,O.noGi⟩
  kernel_rfl
 ·refine own_tailZ (own_splitZ (first_rest _) rfl (fun _=>rfl) (H1 y.1 y.2 w) fun x hx=>?_)
  obtain ⟨V,b1,tb1,eb1⟩:=x
  obtain ⟨hV,hb⟩:=hx
  have hV:V=V.kn i y.2 n:=hV
  have z:=H2 y.1 y.2 V b1 tb1 eb1 hb w
  rw [←hV] at z
  exact z
end
section
variable {R:PlR} {qd:Bool} {nvs:LV} {epa:Nat} {im:Led} {i:Nat} {lv:Value} {vs:LV} {b tb epb:Nat} {ps:LV} {epp:Nat} {n:Num} {T u ah tah:Nat} {tf:T3} {rest:List LN} {fo:World->Obj}
theorem p2_valid (t:Sh) (V:PlV) (b1 tb1 eb1:Nat) (hsg:R.sg=32\/R.sg=9) (ih:PlIH R qd nvs epa im i tf rest) (ht:tfin (shT t) rest=tf) (hm:n.led∈im) (h0:n.fs≠[]) (hl:n.fs.length<=1000) (hi:i<=1000) (hv:vs.length<=i) (hps:ps.length<=i) (hb1:b1=b+preSz qd n.val):P2Ok R nvs epa im i lv vs b tb epb ps epp n T u ah tah tf rest fo qd t ⟨V.kn i u n,b1,tb1,eb1⟩:=by
 obtain ⟨r,e,ue,h,he,_⟩:=num_split h0
 cases qd with
 | false=>
  by_cases hs:e=R.sg
  ·exact p2FP_valid hm h he hl hi hv hps t ih ht hb1 hs
  ·by_cases h34:e=34
   ·exact p2FH_valid hm h he hl hi hv hps t ih ht hb1 hs h34
   ·exact p2FO_valid hm h he hl hi hv hps t ih ht hb1 hs h34
 | true=>
  by_cases hln:n.fs.length=1
  ·by_cases hs:e=R.sg
   ·cases hr:(32==ah|| 9==ah) with
    | false=>exact p2T1P_valid hm h he hl hi hv hps t ih ht hb1 hln hr hs
    | true=>
     by_cases h34:e=34
     ·exact absurd (hs.symm.trans h34) (by rcases hsg with q | q <;>rw [q] <;>decide)
     ·exact p2T1R_valid hm h he hl hi hv hps t ih ht hb1 hln hr hs h34
   ·by_cases h34:e=34
    ·exact p2T1H_valid hm h he hl hi hv hps t ih ht hb1 hln hs h34
    ·exact p2T1O_valid hm h he hl hi hv hps t ih ht hb1 hln hs h34
  ·by_cases hs:e=R.sg
   ·exact p2T2P_valid hm h he hl hi hv hps t ih ht hb1 hln hs
   ·by_cases h34:e=34
    ·exact p2T2H_valid hm h he hl hi hv hps t ih ht hb1 hln hs h34
    ·exact p2T2O_valid hm h he hl hi hv hps t ih ht hb1 hln hs h34
end
theorem sPl_valid (tf:T3) (R:PlR) (hsg:R.sg=32\/R.sg=9) (qd:Bool) (epa:Nat) (ns:List Num) (hn:ns.length<=1000) (hg:∀n∈ns,NG3 n.val):∀(r:List Num) (w:World) (i:Nat) (t:T3) (V:PlV) (lv:Value) (vs:LV) (b tb epb:Nat) (ps:LV) (epp ah tah:Nat),ns.drop i=r->vs.length<=i->ps.length<=i->tfin t (r.map Num.val)=tf->
  Vd w (sPl w R qd (numVs ns) epa (numLed ns) i (plF w R qd ah tah t.run V) lv vs b tb epb ps epp (plPost qd R.sg i ah b tf (r.map Num.val))):=by
 intro r
 induction r with
 | nil=>
  intro w i t V lv vs b tb epb ps epp ah tah hr hv hps ht
  have hi:(numVs ns).length<=i:=by
   have:ns.length<=i:=List.drop_eq_nil_iff.mp hr
   simpa [numVs] using this
  revert w t
  refine vFamC _ t3s [] (fun _=>roNil) ?_ ?_
  ·exact fun t ht w s N0 t0 G_ D_ I_=>
    .ui 0x40c0000c024000240002400 (sItEI R.it R.a i (Value.type "list") none (numVs ns) epa) [6] [] (sItEI_valid hi) (inS (I_ _ (.head _))) tt fun x1 N1 t1=>
    dn D_ 0x400007 ((.ok .next)) [(0,R.F,plF w R qd ah tah t.run V),(3,R.z,enumV .none R.it (Int.ofNat i) lv),(6,R.it,iterE i),(9,R.bl,lst (vs++[iv b tb]) epb),(12,R.pl,lst ps epp)] [] [] fun s' O=>⟨(⟨[],b,tb,epb,[],epp,ah,tah,t,V,i,lv⟩:PlX),⟨rfl,rfl,ht⟩,rfl,rfl,by
    have:=O.noGi
    rw [←List.append_nil ps,←List.append_nil vs] at this
    exact this⟩
  kernel_rfl
 | cons n r ih=>
  intro w i t V lv vs b tb epb ps epp ah tah hr hv hps ht
  obtain ⟨hgt,hdr⟩:=drop_get hr
  have hi:i<ns.length:=(List.getElem?_eq_some_iff.mp hgt).1
  have hmem:n∈ns:=List.mem_of_getElem? hgt
  have hm:n.led∈numLed ns:=List.mem_map_of_mem hmem
  obtain ⟨g1,g2,g3⟩:=num_good (hg n hmem)
  have IH:PlIH R qd (numVs ns) epa (numLed ns) i tf (r.map Num.val):=fun w t V lv vs b tb epb ps epp ah tah h1 h2 h3=>ih w (i+1) t V lv vs b tb epb ps epp ah tah hdr h1 h2 h3
  obtain ⟨r0,e,ue,h,he,hpre⟩:=num_split g1
  have hl:n.val.length=r0.length+1:=by unfold Num.val;rw [h];simp
  have ht:tfin (if n.val.length=1 then t else t.up) (r.map Num.val)=tf:=ht
  cases r0 with
  | nil=>exact sPl_turn R qd (numVs ns) epa (numLed ns) i lv vs b tb epb ps epp n ah tah tf (r.map Num.val) (fun w=>plF w R qd ah tah t.run V) w t.run (numVs_at hgt) (fun T u=>p1r1_valid R qd (numVs ns) epa (numLed ns) i lv vs b tb epb ps epp _ n T u ah tah hm (by exact leT ‹_› rfl) t V h hpre) fun T u V b1 tb1 eb1 hb1=>p2_valid t.run V b1 tb1 eb1 hsg IH (by rw [hl] at ht;rw [shT_run];exact ht) hm g1 (by exact leT ‹_› rfl) (by lia) hv hps hb1
  | cons p r0=>
   obtain ⟨f,uf⟩:=p
   cases t with
   | x=>exact sPl_turn R qd (numVs ns) epa (numLed ns) i lv vs b tb epb ps epp n ah tah tf (r.map Num.val) (fun w=>plF w R qd ah tah .a V) w .b (numVs_at hgt) (fun T u=>p1a2_valid R qd (numVs ns) epa (numLed ns) i lv vs b tb epb ps epp _ n T u ah tah hm (by exact leT ‹_› rfl) g3 (by lia) V h hpre) fun T u V b1 tb1 eb1 hb1=>p2_valid .b V b1 tb1 eb1 hsg IH (by rw [hl,if_neg (by simp)] at ht;exact ht) hm g1 (by exact leT ‹_› rfl) (by lia) hv hps hb1
   | y=>exact sPl_turn R qd (numVs ns) epa (numLed ns) i lv vs b tb epb ps epp n ah tah tf (r.map Num.val) (fun w=>plF w R qd ah tah .b V) w .b (numVs_at hgt) (fun T u=>p1bc2_valid R qd (numVs ns) epa (numLed ns) i lv vs b tb epb ps epp _ n T u ah tah hm (by exact leT ‹_› rfl) g3 (by lia) false V h hpre) fun T u V b1 tb1 eb1 hb1=>p2_valid .b V b1 tb1 eb1 hsg IH (by rw [hl,if_neg (by simp)] at ht;exact ht) hm g1 (by exact leT ‹_› rfl) (by lia) hv hps hb1
   | z=>exact sPl_turn R qd (numVs ns) epa (numLed ns) i lv vs b tb epb ps epp n ah tah tf (r.map Num.val) (fun w=>plF w R qd ah tah .c V) w .c (numVs_at hgt) (fun T u=>p1bc2_valid R qd (numVs ns) epa (numLed ns) i lv vs b tb epb ps epp _ n T u ah tah hm (by exact leT ‹_› rfl) g3 (by lia) true V h hpre) fun T u V b1 tb1 eb1 hb1=>p2_valid .c V b1 tb1 eb1 hsg IH (by rw [hl,if_neg (by simp)] at ht;exact ht) hm g1 (by exact leT ‹_› rfl) (by lia) hv hps hb1
theorem sPl1_valid (tf:T3) (R:PlR) (hsg:R.sg=32\/R.sg=9) (qd:Bool) (epa:Nat) (n:Num) (r:List Num) (hn:(n::r).length<=1000) (hg:∀m∈n::r,NG3 m.val) (w:World) (lv:Value) (b tb epb epp ah tah:Nat) (ht:tfin (crT (n.val.length !=1)) (r.map Num.val)=tf):
  Vd w (sPl w R qd (numVs (n::r)) epa (numLed (n::r)) 0 (plF0 w R qd ah tah) lv [] b tb epb [] epp (plPost qd R.sg 0 ah b tf ((n::r).map Num.val))):=by
 have hm:n.led∈numLed (n::r):=.head _
 obtain ⟨g1,g2,g3⟩:=num_good (hg n (.head _))
 have IH:PlIH R qd (numVs (n::r)) epa (numLed (n::r)) 0 tf (r.map Num.val):=fun w t V lv vs b tb epb ps epp ah tah h1 h2 h3=>sPl_valid tf R hsg qd epa (n::r) hn hg r w 1 t V lv vs b tb epb ps epp ah tah rfl h1 h2 h3
 obtain ⟨r0,e,ue,h,he,hpre⟩:=num_split g1
 have hl:n.val.length=r0.length+1:=by unfold Num.val;rw [h];simp
 cases r0 with
 | nil=>exact sPl_turn R qd (numVs (n::r)) epa (numLed (n::r)) 0 lv [] b tb epb [] epp n ah tah tf (r.map Num.val) (fun w=>plF0 w R qd ah tah) w .s0 rfl (fun T u=>p1e1_valid R qd (numVs (n::r)) epa (numLed (n::r)) 0 lv [] b tb epb [] epp _ n T u ah tah hm (by exact leT ‹_› rfl) h hpre) fun T u V b1 tb1 eb1 hb1=>p2_valid .s0 V b1 tb1 eb1 hsg IH (by rw [hl] at ht;exact ht) hm g1 (by exact leT ‹_› rfl) (by decide) (by simp) (by simp) hb1
 | cons p r0=>
  obtain ⟨f,uf⟩:=p
  exact sPl_turn R qd (numVs (n::r)) epa (numLed (n::r)) 0 lv [] b tb epb [] epp n ah tah tf (r.map Num.val) (fun w=>plF0 w R qd ah tah) w .c0 rfl (fun T u=>p1e2_valid R qd (numVs (n::r)) epa (numLed (n::r)) 0 lv [] b tb epb [] epp _ n T u ah tah hm (by exact leT ‹_› rfl) g3 (by simp) h hpre) fun T u V b1 tb1 eb1 hb1=>p2_valid .c0 V b1 tb1 eb1 hsg IH (by rw [hl,show ((((f,uf)::r0).length+1 !=1):Bool)=true from by simp] at ht;exact ht) hm g1 (by exact leT ‹_› rfl) (by decide) (by simp) (by simp) hb1
def stP3 (w:World):Stmt:=atS (fnBody w 301) 7 []
structure P3R where
 z:Nat
 it:Nat
 pt:Nat
 qp:Nat
 qf:Nat
section
variable (w:World) (R:PlR) (qd:Bool) (ah tah:Nat) (t:T3) (V:PlV) (Z:P3R)
def p3F (f tf:Nat):Obj:=frameO w (plB R qd ah tah (shL V [("parted",Z.qp,.ref Z.pt),("filled",Z.qf,iv f tf)] t.run)) (shN t.run+1+1)
def p3G (f tf qpl:Nat) (pv:Value):Obj:=frameO w (plB R qd ah tah (shL V [("parted",Z.qp,.ref Z.pt),("filled",Z.qf,iv f tf),("place",qpl,pv)] t.run)) (shN t.run+1+1+1)
end
structure P3X where
 us:List (Nat×Nat)
 ep:Nat
 V:PlV
 f:Nat
 tf:Nat
 qpl:Nat
 pv:Value
 i:Nat
 lv:Value
def sP3 (w:World) (R:PlR) (qd:Bool) (ah tah:Nat) (t:T3) (Z:P3R) (pls:LV) (epp:Nat) (bs:LV) (epb:Nat) (i:Nat) (fo:Obj) (lv:Value) (us:LV) (ep:Nat) (post:P3X->Prop):Summ where
 code:=loopC (stP3 w) (.ref Z.z) (fnEnv w 301 R.F [])
 need:=[(R.F,fo),(Z.z,enumV .none Z.it (Int.ofNat i) lv),(Z.it,iterO R.pl i),(Z.pt,lst us ep)]
 imm:=[(R.pl,lst pls epp),(R.bl,lst bs epb)]
 Res:=P3X
 post:=post
 res:=fun _=>.ok .next
 upd:=fun x=>[p3G w R qd ah tah t x.V Z x.f x.tf x.qpl x.pv,enumV .none Z.it (Int.ofNat x.i) x.lv,iterE x.i,lst (us++ivs x.us) x.ep]
 d:=20
 u:=40
def p3U (R:PlR) (Z:P3R) (i:Nat) (fo:Obj) (a lv:Value) (us:LV) (ep:Nat):List Obj:=[fo,enumV a Z.it (Int.ofNat i) lv,iterO R.pl i,lst us ep]
def sP3T (w:World) (R:PlR) (qd:Bool) (ah tah:Nat) (t:T3) (Z:P3R) (pls:LV) (epp:Nat) (bs:LV) (epb:Nat) (i:Nat) (fo:Obj) (lv:Value) (us:LV) (ep:Nat) (post:P3X->Prop) (p tp:Nat) (T u:Nat):Summ:=
 tailS (sP3 w R qd ah tah t Z pls epp bs epb i fo lv us ep post) (p3U R Z (i+1) fo .none (iv p tp) us ep) [(T,tup [iv i u,iv p tp])]
theorem isTupP3 {w:World}:isTupFor (stP3 w)=true:=by kernel_rfl
def p3Post (wd f:Nat) (ss ps:LN):P3X->Prop:=fun x=>x.us.map (·.1)=pt wd f ss ps
section
variable (R:PlR) (qd:Bool) (ah tah:Nat) (t:T3) (Z:P3R) (pls:LV) (epp:Nat) (bs:LV) (epb:Nat) (i:Nat) (lv:Value) (us:LV) (ep:Nat) (post:P3X->Prop) (p tp:Nat) (fo:World->Obj)
theorem sP3_turn (w:World) (h1:pls[i]? =some (iv p tp))
  (H:∀T u,OwnT w (sP3T w R qd ah tah t Z pls epp bs epb i (fo w) lv us ep post p tp T u) (tailZ (stP3 w) (.ref Z.z) (.ref T) (fnEnv w 301 R.F []))):
  Vd w (sP3 w R qd ah tah t Z pls epp bs epb i (fo w) lv us ep post):=by
 refine valid_turnX (w:=w) (S:=sP3 w R qd ah tah t Z pls epp bs epb i (fo w) lv us ep post) (st:=stP3 w) (z:=Z.z) (env:=fnEnv w 301 R.F [])
  (Res1:=Nat×Nat) (post1:=fun _=>True) (a:=fun y=>y.1) (upd1:=fun y=>p3U R Z (i+1) (fo w) (.int (Int.ofNat y.1) 0) (iv p tp) us ep) (new1:=fun y=>[(y.1,tup [iv i y.2,iv p tp])])
  (fun _=>p3U R Z (i+1) (fo w) .none (iv p tp) us ep) (fun y=>enumV (.int (Int.ofNat y.1) 0) Z.it (Int.ofNat (i+1)) (iv p tp)) (fun _=>enumV .none Z.it (Int.ofNat (i+1)) (iv p tp))
  (isTupP3) rfl rfl (fun _=>rfl) (fun y s A Q E es k tp h hQ=>go_enum y.1 s A Q E es k tp h hQ) (fun x=>?_) 1 rfl (fun _=>rfl) ?_ ?_ (fun y _=>H y.1 y.2)
 ·simp [sP3,p3U,rezip]
 ·simp [sP3]
 ·clear H
  revert w
  refine vRowT (fun w=>headZ (stP3 w) (.ref Z.z)) [] roNil ?_ ?_
  ·exact fun w s N0 t0 G_ D_ I_=>
    psItNI 0x103000030090000900009 Z.it R.pl i (Value.type "list") none pls epp (iv p tp) h1 [6] [] (inS (I_ _ (.head _))) fun x1 N1 t1=>
    endQ D_ 0x402409024090240902409024090240902409 (N1,t1) [0,3,6,9] [2] [] fun s' O=>⟨(N1,t1),trivial,rfl,rfl,O.noGi⟩
  kernel_rfl
end
section
variable {R:PlR} {qd:Bool} {ah tah:Nat} {t:T3} {Z:P3R} {pls:LV} {epp:Nat} {bs:LV} {epb:Nat} {i:Nat} {lv:Value} {us:LV} {ep:Nat} {p tp T u:Nat} {fo:Obj} {w:World} {s s':Shared} {f sz:Nat} {ss ps:LN} {x:P3X} {li:Led}
theorem p3_finT (h:f+sz>R.wd) (hx:p3Post R.wd sz ss ps x)
  (O:Out s s' ((sP3T w R qd ah tah t Z pls epp bs epb i fo lv us ep (p3Post R.wd f (sz::ss) (p::ps)) p tp T u).need.map (·.1)) (rezip (sP3T w R qd ah tah t Z pls epp bs epb i fo lv us ep (p3Post R.wd f (sz::ss) (p::ps)) p tp T u).need
   [p3G w R qd ah tah t x.V Z x.f x.tf x.qpl x.pv,enumV .none Z.it (Int.ofNat x.i) x.lv,iterE x.i,lst ((us++[iv p tp])++ivs x.us) x.ep]) [] li):
  Post (sP3T w R qd ah tah t Z pls epp bs epb i fo lv us ep (p3Post R.wd f (sz::ss) (p::ps)) p tp T u) s (.ok .next) s':=by
 refine ⟨(⟨(p,tp)::x.us,x.ep,x.V,x.f,x.tf,x.qpl,x.pv,x.i,x.lv⟩:P3X),?_,rfl,rfl,?_⟩
 ·show p::x.us.map (·.1)=_
  rw [show x.us.map (·.1)=_ from hx]
  conv=>rhs;unfold pt
  rw [if_pos h]
 ·rw [List.append_assoc us] at O
  exact O.noGi
theorem p3_finF (h:¬f+sz>R.wd) (hx:p3Post R.wd (f+sz) ss ps x)
  (O:Out s s' ((sP3T w R qd ah tah t Z pls epp bs epb i fo lv us ep (p3Post R.wd f (sz::ss) (p::ps)) p tp T u).need.map (·.1)) (rezip (sP3T w R qd ah tah t Z pls epp bs epb i fo lv us ep (p3Post R.wd f (sz::ss) (p::ps)) p tp T u).need
   [p3G w R qd ah tah t x.V Z x.f x.tf x.qpl x.pv,enumV .none Z.it (Int.ofNat x.i) x.lv,iterE x.i,lst (us++ivs x.us) x.ep]) [] li):
  Post (sP3T w R qd ah tah t Z pls epp bs epb i fo lv us ep (p3Post R.wd f (sz::ss) (p::ps)) p tp T u) s (.ok .next) s':=by
 refine ⟨x,?_,rfl,rfl,O.noGi⟩
 show x.us.map (·.1)=_
 rw [show x.us.map (·.1)=_ from hx]
 conv=>rhs;unfold pt
 rw [if_neg h]
end
section
variable (R:PlR) (qd:Bool) (ah tah:Nat) (t:T3) (Z:P3R) (epp epb:Nat)
theorem sP3_valid (l bl:List (Nat×Nat)) (hlen:bl.length=l.length+1) (hl:l.length<=1000):∀(r:List (Nat×Nat)) (w:World) (i:Nat) (V:PlV) (f tf qpl:Nat) (pv lv:Value) (us:LV) (ep:Nat),l.drop i=r->us.length<=i->
  Vd w (sP3 w R qd ah tah t Z (ivs l) epp (ivs bl) epb i (p3G w R qd ah tah t V Z f tf qpl pv) lv us ep (p3Post R.wd f ((bl.drop (i+1)).map Prod.fst) (r.map Prod.fst))):=by
 intro r
 induction r with
 | nil=>
  intro w i V f tf qpl pv lv us ep hr hu
  have hi0:l.length<=i:=List.drop_eq_nil_iff.mp hr
  have hi:(ivs l).length<=i:=by simpa [ivs] using hi0
  have hb:bl.drop (i+1)=[]:=List.drop_eq_nil_iff.mpr (by lia)
  rw [hb]
  revert w t
  refine vFamR _ t3s [] (fun _=>roNil) ?_ ?_
  ·exact fun t w s N0 t0 G_ D_ I_=>
    .ui 0x40c0000c024000240002400 (sItEI Z.it R.pl i (Value.type "list") none (ivs l) epp) [6] [] (sItEI_valid hi) (inS (I_ _ (.head _))) tt fun x1 N1 t1=>
    dn D_ 0x400007 ((.ok .next)) [(0,R.F,p3G w R qd ah tah t V Z f tf qpl pv),(3,Z.z,enumV .none Z.it (Int.ofNat i) lv),(6,Z.it,iterE i),(9,Z.pt,lst us ep)] [] [] fun s' O=>⟨(⟨[],ep,V,f,tf,qpl,pv,i,lv⟩:P3X),rfl,rfl,rfl,by have:=O.noGi;rw [←List.append_nil us] at this;exact this⟩
  kernel_rfl
 | cons pp r ih=>
  intro w i V f tf qpl pv lv us ep hr hu
  obtain ⟨p,tp⟩:=pp
  obtain ⟨hg,hdr⟩:=drop_get hr
  have hi:i<l.length:=(List.getElem?_eq_some_iff.mp hg).1
  obtain ⟨s0,rb,hb⟩:∃s0 rb,bl.drop (i+1)=s0::rb:=by
   cases hq:bl.drop (i+1) with
   | nil=>have:=List.drop_eq_nil_iff.mp hq;lia
   | cons s0 rb=>exact ⟨s0,rb,rfl⟩
  obtain ⟨sz,ts⟩:=s0
  obtain ⟨hbg,hbd⟩:=drop_get hb
  have hlb:(ivs bl).length=bl.length:=ivs_len _
  have gi:∀(w:World) (t:Nat),Vd w (sGetIntI R.bl (ivs bl) epb (Int.ofNat (i+1)) t (iv sz ts)):=fun w t=>sGetIntI_valid _ (seq_ix (by rw [hlb];lia)) (ivs_get hbg) (fits_nat _ (by lia))
  have him:∀{q:Nat×Obj} {bag:Led},q∈[(R.bl,lst (ivs bl) epb)]->q∈[(R.pl,lst (ivs l) epp),(R.bl,lst (ivs bl) epb)]\/q∈bag:=fun h=>.inl (.tail _ h)
  have hm:((bl.drop (i+1)).map Prod.fst)=sz::((bl.drop (i+1+1)).map Prod.fst):=by rw [hb,←hbd];rfl
  rw [hm,List.map_cons]
  refine sP3_turn R qd ah tah t Z (ivs l) epp (ivs bl) epb i lv us ep _ p tp (fun w=>p3G w R qd ah tah t V Z f tf qpl pv) w (ivs_get hg) fun T u=>?_
  by_cases h:f+sz>R.wd
  ·revert w t
   refine vFamTA (fun w t=>tailZ (stP3 w) (.ref Z.z) (.ref T) (fnEnv w 301 R.F [])) _ t3s [(R.bl,lst (ivs bl) epb)] (fun _ _=>fun q hq=>.tail _ hq) ?_ ?_
   ·exact fun t ih w s N0 t0 G_ D_ I_=>
     piAdd 0x4000180601806018060180e0200804808020000200002008020120200800008000080200804808020000200002008000120001204812 i u 1 (t0+2) (i+1) rfl [] fun x1 N1 t1=>
     .ui 0x6000020080200 (sGetIntI R.bl (ivs bl) epb (Int.ofNat (i+1)) x1 (iv sz ts)) [] [] (gi _ _) (inW D_ (fun q hq=>him hq)) tt fun x2 N2 t2=>
     piAdd 0x400 f tf sz ts (f+sz) rfl [] fun x3 N3 t3=>
     .u 0x100006 (sV "int.__gt__" [iv (f+sz) x3,iv R.wd R.twd] (Value.bool true)) [] [] (iGt_valid (by simpa using h)) tt fun x4 N4 t4=>
     psAppend 0x103c000180f03c0f03c06 (Value.type "list") none Z.pt us ep (iv p tp) (by lia) [9] [] fun x5 N5 t5=>
     piAdd 0x1000060180601806 i u 1 (t5+2) (i+1) rfl [] fun x6 N6 t6=>
     .ui 0x6000020080200 (sGetIntI R.bl (ivs bl) epb (Int.ofNat (i+1)) x6 (iv sz ts)) [] [] (gi _ _) (inW D_ (fun q hq=>him hq)) tt fun x7 N7 t7=>
     piAdd 0x400 0 (t5+0) sz ts sz (Nat.zero_add _) [] fun x8 N8 t8=>
     .uq 0x101806 (sP3 w R qd ah tah t Z (ivs l) epp (ivs bl) epb (i+1) (p3G w R qd ah tah t (PlV.mk V.qk (iv i u) V.qn V.nv V.qf V.fv V.qr V.rv) Z sz x8 qpl (iv p tp)) (iv p tp) (us++[iv p tp]) x5 (p3Post R.wd sz ((bl.drop (i+1+1)).map Prod.fst) (r.map Prod.fst))) [0,3,6,9] [] (ih _ _ _ _ _ _ _ _ _ _ hdr (la (by lia))) (inJ I_) tt fun x9 N9 t9 h9=>
     dn D_ 0x4 ((.ok .next)) [(0,R.F,p3G w R qd ah tah t x9.V Z x9.f x9.tf x9.qpl x9.pv),(3,Z.z,enumV .none Z.it (Int.ofNat x9.i) x9.lv),(6,Z.it,iterE x9.i),(9,Z.pt,lst ((us++[iv p tp])++ivs x9.us) x9.ep)] [] [] fun s' O=>p3_finT h h9 O
   kernel_rfl
  ·revert w t
   refine vFamTA (fun w t=>tailZ (stP3 w) (.ref Z.z) (.ref T) (fnEnv w 301 R.F [])) _ t3s [(R.bl,lst (ivs bl) epb)] (fun _ _=>fun q hq=>.tail _ hq) ?_ ?_
   ·exact fun t ih w s N0 t0 G_ D_ I_=>
     piAdd 0x4000180601806018060180e0200804808020000200002008020120200800008000080200804808020000200002008000120001204812 i u 1 (t0+2) (i+1) rfl [] fun x1 N1 t1=>
     .ui 0x6000020080200 (sGetIntI R.bl (ivs bl) epb (Int.ofNat (i+1)) x1 (iv sz ts)) [] [] (gi _ _) (inW D_ (fun q hq=>him hq)) tt fun x2 N2 t2=>
     piAdd 0x400 f tf sz ts (f+sz) rfl [] fun x3 N3 t3=>
     .u 0x100006 (sV "int.__gt__" [iv (f+sz) x3,iv R.wd R.twd] (Value.bool false)) [] [] (iGt_valid (by simpa using h)) tt fun x4 N4 t4=>
     piAdd 0x10000601806 i u 1 (t4+0) (i+1) rfl [] fun x6 N6 t6=>
     .ui 0x6000020080200 (sGetIntI R.bl (ivs bl) epb (Int.ofNat (i+1)) x6 (iv sz ts)) [] [] (gi _ _) (inW D_ (fun q hq=>him hq)) tt fun x7 N7 t7=>
     piAdd 0x400 f tf sz ts (f+sz) rfl [] fun x8 N8 t8=>
     .uq 0x101806 (sP3 w R qd ah tah t Z (ivs l) epp (ivs bl) epb (i+1) (p3G w R qd ah tah t (PlV.mk V.qk (iv i u) V.qn V.nv V.qf V.fv V.qr V.rv) Z (f+sz) x8 qpl (iv p tp)) (iv p tp) us ep (p3Post R.wd (f+sz) ((bl.drop (i+1+1)).map Prod.fst) (r.map Prod.fst))) [0,3,6,9] [] (ih _ _ _ _ _ _ _ _ _ _ hdr (by exact .step ‹_›)) (inJ I_) tt fun x9 N9 t9 h9=>
     dn D_ 0x4 ((.ok .next)) [(0,R.F,p3G w R qd ah tah t x9.V Z x9.f x9.tf x9.qpl x9.pv),(3,Z.z,enumV .none Z.it (Int.ofNat x9.i) x9.lv),(6,Z.it,iterE x9.i),(9,Z.pt,lst (us++ivs x9.us) x9.ep)] [] [] fun s' O=>p3_finF h h9 O
   kernel_rfl
theorem sP31_valid (p tp:Nat) (r:List (Nat×Nat)) (b0':Nat×Nat) (sz ts:Nat) (rb:List (Nat×Nat)) (hlen:rb.length=r.length) (hl:r.length<=500) (w:World) (V:PlV) (f tf:Nat) (lv:Value) (ep:Nat):
  Vd w (sP3 w R qd ah tah t Z (ivs ((p,tp)::r)) epp (ivs (b0'::(sz,ts)::rb)) epb 0 (p3F w R qd ah tah t V Z f tf) lv [] ep (p3Post R.wd f (sz::rb.map Prod.fst) (p::r.map Prod.fst))):=by
 have gi:∀(w:World) (t:Nat),Vd w (sGetIntI R.bl (ivs (b0'::(sz,ts)::rb)) epb (Int.ofNat (0+1)) t (iv sz ts)):=fun w t=>sGetIntI_valid 1 (seq_ix (by simp [ivs])) rfl (fits_nat _ (by decide))
 have him:∀{q:Nat×Obj} {bag:Led},q∈[(R.bl,lst (ivs (b0'::(sz,ts)::rb)) epb)]->q∈[(R.pl,lst (ivs ((p,tp)::r)) epp),(R.bl,lst (ivs (b0'::(sz,ts)::rb)) epb)]\/q∈bag:=fun h=>.inl (.tail _ h)
 have ih:∀(w:World) (V:PlV) (f tf qpl:Nat) (pv lv:Value) (us:LV) (ep:Nat),us.length<=1->Vd w (sP3 w R qd ah tah t Z (ivs ((p,tp)::r)) epp (ivs (b0'::(sz,ts)::rb)) epb 1 (p3G w R qd ah tah t V Z f tf qpl pv) lv us ep (p3Post R.wd f (rb.map Prod.fst) (r.map Prod.fst))):=fun w V f tf qpl pv lv us ep hu=>
  sP3_valid R qd ah tah t Z epp epb ((p,tp)::r) (b0'::(sz,ts)::rb) (by simp [hlen]) (by simp;exact leT ‹_› rfl) r w 1 V f tf qpl pv lv us ep rfl hu
 refine sP3_turn R qd ah tah t Z (ivs ((p,tp)::r)) epp (ivs (b0'::(sz,ts)::rb)) epb 0 lv [] ep _ p tp (fun w=>p3F w R qd ah tah t V Z f tf) w rfl fun T u=>?_
 by_cases h:f+sz>R.wd
 ·revert w t
  refine vFamTB (fun w t=>tailZ (stP3 w) (.ref Z.z) (.ref T) (fnEnv w 301 R.F [])) _ t3s [(R.bl,lst (ivs (b0'::(sz,ts)::rb)) epb)] (fun _ _=>fun q hq=>.tail _ hq) ?_ ?_
  ·exact fun t ih w s N0 t0 G_ D_ I_=>
    piAdd 0x4000180601806018060180e0200804808020000200002008020120200800008000080200804808020000200002008000120001204812 0 u 1 (t0+2) (0+1) rfl [] fun x1 N1 t1=>
    .ui 0x6000020080200 (sGetIntI R.bl (ivs (b0'::(sz,ts)::rb)) epb (Int.ofNat (0+1)) x1 (iv sz ts)) [] [] (gi _ _) (inW D_ (fun q hq=>him hq)) tt fun x2 N2 t2=>
    piAdd 0x400 f tf sz ts (f+sz) rfl [] fun x3 N3 t3=>
    .u 0x100006 (sV "int.__gt__" [iv (f+sz) x3,iv R.wd R.twd] (Value.bool true)) [] [] (iGt_valid (by simpa using h)) tt fun x4 N4 t4=>
    psAppend 0x103c000180f03c0f03c06 (Value.type "list") none Z.pt [] ep (iv p tp) (by simp) [9] [] fun x5 N5 t5=>
    piAdd 0x1000060180601806 0 u 1 (t5+2) (0+1) rfl [] fun x6 N6 t6=>
    .ui 0x6000020080200 (sGetIntI R.bl (ivs (b0'::(sz,ts)::rb)) epb (Int.ofNat (0+1)) x6 (iv sz ts)) [] [] (gi _ _) (inW D_ (fun q hq=>him hq)) tt fun x7 N7 t7=>
    piAdd 0x400 0 (t5+0) sz ts sz (Nat.zero_add _) [] fun x8 N8 t8=>
    .uq 0x101806 (sP3 w R qd ah tah t Z (ivs ((p,tp)::r)) epp (ivs (b0'::(sz,ts)::rb)) epb (0+1) (p3G w R qd ah tah t (PlV.mk V.qk (iv 0 u) V.qn V.nv V.qf V.fv V.qr V.rv) Z sz x8 (t0+1) (iv p tp)) (iv p tp) ([]++[iv p tp]) x5 (p3Post R.wd sz (rb.map Prod.fst) (r.map Prod.fst))) [0,3,6,9] [] (ih _ _ _ _ _ _ _ _ _ (by simp)) (inJ I_) tt fun x9 N9 t9 h9=>
    dn D_ 0x4 ((.ok .next)) [(0,R.F,p3G w R qd ah tah t x9.V Z x9.f x9.tf x9.qpl x9.pv),(3,Z.z,enumV .none Z.it (Int.ofNat x9.i) x9.lv),(6,Z.it,iterE x9.i),(9,Z.pt,lst (([]++[iv p tp])++ivs x9.us) x9.ep)] [] [] fun s' O=>p3_finT h h9 O
  kernel_rfl
 ·revert w t
  refine vFamTB (fun w t=>tailZ (stP3 w) (.ref Z.z) (.ref T) (fnEnv w 301 R.F [])) _ t3s [(R.bl,lst (ivs (b0'::(sz,ts)::rb)) epb)] (fun _ _=>fun q hq=>.tail _ hq) ?_ ?_
  ·exact fun t ih w s N0 t0 G_ D_ I_=>
    piAdd 0x4000180601806018060180e0200804808020000200002008020120200800008000080200804808020000200002008000120001204812 0 u 1 (t0+2) (0+1) rfl [] fun x1 N1 t1=>
    .ui 0x6000020080200 (sGetIntI R.bl (ivs (b0'::(sz,ts)::rb)) epb (Int.ofNat (0+1)) x1 (iv sz ts)) [] [] (gi _ _) (inW D_ (fun q hq=>him hq)) tt fun x2 N2 t2=>
    piAdd 0x400 f tf sz ts (f+sz) rfl [] fun x3 N3 t3=>
    .u 0x100006 (sV "int.__gt__" [iv (f+sz) x3,iv R.wd R.twd] (Value.bool false)) [] [] (iGt_valid (by simpa using h)) tt fun x4 N4 t4=>
    piAdd 0x10000601806 0 u 1 (t4+0) (0+1) rfl [] fun x6 N6 t6=>
    .ui 0x6000020080200 (sGetIntI R.bl (ivs (b0'::(sz,ts)::rb)) epb (Int.ofNat (0+1)) x6 (iv sz ts)) [] [] (gi _ _) (inW D_ (fun q hq=>him hq)) tt fun x7 N7 t7=>
    piAdd 0x400 f tf sz ts (f+sz) rfl [] fun x8 N8 t8=>
    .uq 0x101806 (sP3 w R qd ah tah t Z (ivs ((p,tp)::r)) epp (ivs (b0'::(sz,ts)::rb)) epb (0+1) (p3G w R qd ah tah t (PlV.mk V.qk (iv 0 u) V.qn V.nv V.qf V.fv V.qr V.rv) Z (f+sz) x8 (t0+1) (iv p tp)) (iv p tp) [] ep (p3Post R.wd (f+sz) (rb.map Prod.fst) (r.map Prod.fst))) [0,3,6,9] [] (ih _ _ _ _ _ _ _ _ _ (by simp)) (inJ I_) tt fun x9 N9 t9 h9=>
    dn D_ 0x4 ((.ok .next)) [(0,R.F,p3G w R qd ah tah t x9.V Z x9.f x9.tf x9.qpl x9.pv),(3,Z.z,enumV .none Z.it (Int.ofNat x9.i) x9.lv),(6,Z.it,iterE x9.i),(9,Z.pt,lst ([]++ivs x9.us) x9.ep)] [] [] fun s' O=>p3_finF h h9 O
  kernel_rfl
end
section
variable (w:World) (R:PlR) (qd:Bool) (nvs:LV) (epa:Nat) (im:Led) (i:Nat) (fo:Obj) (lv:Value) (vs:LV) (b tb epb:Nat) (ps:LV) (epp:Nat) (tf:T3) (post:PlX->Prop)
def sPlK:Summ where
 code:=loopC (stPl w) (.ref R.z) (fnEnv w 301 R.F [])
 need:=[(R.F,fo),(R.z,enumV .none R.it (Int.ofNat i) lv),(R.it,iterO R.a i),(R.bl,lst (vs++[iv b tb]) epb),(R.pl,lst ps epp)]
 imm:=(R.a,lst nvs epa)::im
 Res:=PlX
 post:=post
 res:=fun _=>.ok .next
 upd:=fun x=>[plF w R qd x.ah x.tah tf.run x.V,enumV .none R.it (Int.ofNat x.i) x.lv,iterE x.i,lst ((vs++ivs x.bi)++[iv x.b x.tb]) x.epb,lst (ps++ivs x.ps) x.epp]
 d:=40
 u:=80
def sPlE:Summ where
 code:=loopC (stPl w) (.ref R.z) (fnEnv w 301 R.F [])
 need:=[(R.F,fo),(R.z,enumV .none R.it (Int.ofNat i) lv),(R.it,iterO R.a i),(R.bl,lst (vs++[iv b tb]) epb),(R.pl,lst ps epp)]
 imm:=(R.a,lst nvs epa)::im
 Res:=PlX
 post:=post
 res:=fun _=>.ok .next
 upd:=fun x=>[plF w R qd x.ah x.tah tf.run x.V,enumV .none R.it (Int.ofNat x.i) x.lv,iterE x.i,lst (vs++[iv x.b x.tb]) x.epb,lst ps x.epp]
 d:=40
 u:=80
end
def sP30 (w:World) (R:PlR) (qd:Bool) (ah tah:Nat) (t:T3) (V:PlV) (Z:P3R) (f tf epp:Nat):Summ where
 code:=loopC (stP3 w) (.ref Z.z) (fnEnv w 301 R.F [])
 need:=[(R.F,p3F w R qd ah tah t V Z f tf),(Z.z,enumV .none Z.it 0 .none),(Z.it,iterO R.pl 0)]
 imm:=[(R.pl,lst [] epp)]
 Res:=Unit
 res:=fun _=>.ok .next
 upd:=fun x=>[p3F w R qd ah tah t V Z f tf,enumV .none Z.it 0 .none,iterE 0]
 d:=20
 u:=40
structure PdX where
 a:Nat
 us:List (Nat×Nat)
 ep:Nat
def sParted (a:Nat) (nvs:LV) (epa:Nat) (im:Led) (sg tsg wd twd:Nat) (qd:Bool) (post:PdX->Prop):Summ where
 code:=.call (.ref 301) ⟨[.ref a,iv sg tsg,iv wd twd,.bool qd],[]⟩
 imm:=(a,lst nvs epa)::im
 Res:=PdX
 post:=post
 res:=fun x=>.ok (.ret (.ref x.a))
 new:=fun x=>[(x.a,lst (ivs x.us) x.ep)]
 d:=60
 u:=120
noncomputable def pdR (N0 t0 a sg tsg wd twd z it:Nat):PlR:=⟨N0,a,z,it,N0+1,N0+2,sg,tsg,wd,twd,(fun | 0=>t0 | 1=>t0+1 | 2=>t0+2 | 3=>t0+3 | 4=>t0+5 | 5=>t0+6 | _=>t0+8)⟩
section
variable {w:World} {R:PlR} {qd:Bool} {nvs:LV} {epa:Nat} {im:Led} {i:Nat} {fo:Obj} {lv:Value} {vs:LV} {b tb epb:Nat} {ps:LV} {epp:Nat} {tf:T3} {post:PlX->Prop}
theorem plK_of (H:Vd w (sPl w R qd nvs epa im i fo lv vs b tb epb ps epp post)) (h:∀x,post x->x.t=tf):Vd w (sPlK w R qd nvs epa im i fo lv vs b tb epb ps epp tf post):=
 fun A s room base need imm nodup msk gn=>codeAny_mono (H A s ⟨room.handled,room.depth,room.units,room.env,room.frames,room.fr⟩ base need imm nodup msk gn) fun r s' hr=>by
  obtain ⟨x,hx,hr,hl,O⟩:=hr
  refine ⟨x,hx,hr,hl,?_⟩
  have O:Out s s' _ (rezip _ [plF w R qd x.ah x.tah x.t.run x.V,enumV .none R.it (Int.ofNat x.i) x.lv,iterE x.i,lst ((vs++ivs x.bi)++[iv x.b x.tb]) x.epb,lst (ps++ivs x.ps) x.epp]) _ _:=O
  rw [h x hx] at O
  exact O
theorem plE_of (H:Vd w (sPl w R qd nvs epa im i fo lv vs b tb epb ps epp post)) (h:∀x,post x->x.t=tf/\x.bi=[]/\x.ps=[]):Vd w (sPlE w R qd nvs epa im i fo lv vs b tb epb ps epp tf post):=
 fun A s room base need imm nodup msk gn=>codeAny_mono (H A s ⟨room.handled,room.depth,room.units,room.env,room.frames,room.fr⟩ base need imm nodup msk gn) fun r s' hr=>by
  obtain ⟨x,hx,hr,hl,O⟩:=hr
  refine ⟨x,hx,hr,hl,?_⟩
  have O:Out s s' _ (rezip _ [plF w R qd x.ah x.tah x.t.run x.V,enumV .none R.it (Int.ofNat x.i) x.lv,iterE x.i,lst ((vs++ivs x.bi)++[iv x.b x.tb]) x.epb,lst (ps++ivs x.ps) x.epp]) _ _:=O
  rw [(h x hx).1,(h x hx).2.1,(h x hx).2.2] at O
  simp only [ivs,List.map_nil,List.append_nil] at O
  exact O
end
theorem sP30_valid (w:World) {R:PlR} {qd:Bool} {ah tah:Nat} (t:T3) {V:PlV} {Z:P3R} {f tf epp:Nat}:Vd w (sP30 w R qd ah tah t V Z f tf epp):=
 by
 revert w t
 refine vFam _ t3s [] (fun _=>roNil) ?_ ?_
 ·exact fun t w s N0 t0 G_ D_ I_=>
   .ui 0x40c0000c024000240002400 (sItEI Z.it R.pl 0 (Value.type "list") none [] epp) [6] [] (sItEI_valid (Nat.le_refl _)) (inJ I_) tt fun x1 N1 t1=>
   endQ D_ 0x400007 () [0,3,6] [] [] fun s' O=>⟨(),trivial,rfl,rfl,O.noGi⟩
 kernel_rfl
theorem bkB_cons (q:Bool) (sg z a cur:Nat) (n:LN) (ns:List LN):bkB q sg z a cur (n::ns)=if place q sg a n=true then (cur+preSz q n+(if q=true then 0 else 1))::bkB q sg z (lastN n) 1 ns else bkB q sg z (lastN n) (cur+preSz q n+lastSz q (lastN n)) ns:=rfl
theorem bkP_cons (q:Bool) (sg a k:Nat) (n:LN) (ns:List LN):bkP q sg a k (n::ns)=if place q sg a n=true then k::bkP q sg (lastN n) (k+1) ns else bkP q sg (lastN n) (k+1) ns:=rfl
theorem bkB_z (q:Bool) (sg z:Nat):∀(ns:List LN) (a cur:Nat) (bi:LN) (b:Nat),bi++[b]=bkB q sg 0 a cur ns->bkB q sg z a cur ns=bi++[b+z]
 | [],a,cur,bi,b,h=>by
  have h:bi++[b]=[]++[cur+0]:=h
  obtain ⟨h1,h2⟩:=List.append_inj' h rfl
  have h2:b=cur+0:=by simpa using h2
  subst h1 h2
  rfl
 | n::ns,a,cur,bi,b,h=>by
  rw [bkB_cons] at h ⊢
  by_cases hp:place q sg a n=true
  ·rw [if_pos hp] at h ⊢
   cases bi with
   | nil=>
    have h:[b]=_::bkB q sg 0 (lastN n) 1 ns:=h
    have:bkB q sg 0 (lastN n) 1 ns=[]:=(List.cons.inj h).2.symm
    exfalso
    have ne:∀(ns:List LN) (a cur:Nat),bkB q sg 0 a cur ns≠[]:=by
     intro ns
     induction ns with
     | nil=>intro a cur;simp [bkB]
     | cons m ns ih=>intro a cur;rw [bkB_cons];split <;>first | exact ih _ _ | exact List.cons_ne_nil _ _
    exact ne _ _ _ this
   | cons c bi=>
    have h:c::(bi++[b])=_::bkB q sg 0 (lastN n) 1 ns:=h
    obtain ⟨h1,h2⟩:=List.cons.inj h
    rw [bkB_z q sg z ns _ _ bi b h2,←h1];rfl
  ·rw [if_neg hp] at h ⊢
   exact bkB_z q sg z ns _ _ bi b h
theorem bk_len (q:Bool) (sg z:Nat):∀(ns:List LN) (a cur k:Nat),(bkB q sg z a cur ns).length=(bkP q sg a k ns).length+1
 | [],_,_,_=>rfl
 | n::ns,a,cur,k=>by
  rw [bkB_cons,bkP_cons]
  by_cases hp:place q sg a n=true
  ·rw [if_pos hp,if_pos hp,List.length_cons,List.length_cons,bk_len q sg z ns _ _ (k+1)]
  ·rw [if_neg hp,if_neg hp,bk_len q sg z ns _ _ (k+1)]
def pdPost (qd:Bool) (sg wd:Nat) (vals:List LN):PdX->Prop:=fun x=>x.us.map (·.1)=partedOf qd sg wd vals
theorem sParted_valid (w:World) (a epa sg tsg wd twd:Nat) (qd:Bool) (n:Num) (r:List Num) (hsg:sg=32\/sg=9) (hn:(n::r).length<=400) (hg:∀m∈n::r,NG3 m.val):
  Vd w (sParted a (numVs (n::r)) epa (numLed (n::r)) sg tsg wd twd qd (pdPost qd sg wd ((n::r).map Num.val))):=by
 have K:∀(w:World) (R:PlR),R.sg=sg->∀(b tb epb epp ah tah:Nat),Vd w (sPl w R qd (numVs (n::r)) epa (numLed (n::r)) 0 (plF0 w R qd ah tah) .none [] b tb epb [] epp (plPost qd sg 0 ah b (tfin (crT (n.val.length !=1)) (r.map Num.val)) ((n::r).map Num.val))):=fun w R hR b tb epb epp ah tah=>by
  have z:=sPl1_valid (tfin (crT (n.val.length !=1)) (r.map Num.val)) R (by rw [hR];exact hsg) qd epa n r (by exact leT ‹_› rfl) hg w .none b tb epb epp ah tah rfl
  rw [hR] at z
  exact z
 revert w
 suffices main:∀tf,tfin (crT (n.val.length !=1)) (r.map Num.val)=tf->∀w,Vd w (sParted a (numVs (n::r)) epa (numLed (n::r)) sg tsg wd twd qd (pdPost qd sg wd ((n::r).map Num.val))) from main _ rfl
 have K:=fun tf (htf:tfin (crT (n.val.length !=1)) (r.map Num.val)=tf)=>htf▸K
 have lens:∀tf x,plPost qd sg 0 63 (qz qd) tf ((n::r).map Num.val) x->x.bi.length=x.ps.length:=fun tf x hx=>by
  have h1:=congrArg List.length hx.1
  have h2:=congrArg List.length hx.2.1
  rw [List.length_append,List.length_map,bk_len qd sg 0 _ _ _ 0] at h1
  rw [List.length_map] at h2
  simp only [List.length_cons,List.length_nil] at h1;lia
 have psl:(bkP qd sg 63 0 ((n::r).map Num.val)).length<=400:=by
  have:∀(ns:List LN) (a k:Nat),(bkP qd sg a k ns).length<=ns.length:=by
   intro ns
   induction ns with
   | nil=>intro a k;exact Nat.le_refl _
   | cons m ns ih=>intro a k;rw [bkP_cons];have:=ih (lastN m) (k+1);split <;>simp <;>lia
  exact Nat.le_trans (this _ _ _) (by rw [List.length_map];exact leT ‹_› rfl)
 have imm1:∀{p:Nat×Obj} {bag:Led},p∈[(a,lst (numVs (n::r)) epa)]->p∈(a,lst (numVs (n::r)) epa)::numLed (n::r)\/p∈bag:=fun h=>.inl (List.mem_singleton.mp h▸.head _)
 by_cases hP:bkP qd sg 63 0 ((n::r).map Num.val)=[]
 ·have hx:∀tf x,plPost qd sg 0 63 (qz qd) tf ((n::r).map Num.val) x->x.t=tf/\x.bi=[]/\x.ps=[]:=fun tf x hx=>by
   have h2:=hx.2.1
   rw [hP] at h2
   have h3:x.ps=[]:=List.map_eq_nil_iff.mp h2
   have h4:=lens tf x hx
   rw [h3] at h4
   exact ⟨hx.2.2,List.length_eq_zero_iff.mp h4,h3⟩
  have fin:∀(p:Nat),pdPost qd sg wd ((n::r).map Num.val) ⟨p,[],0⟩:=fun p=>by
   show []=partedOf _ _ _ _
   unfold partedOf
   rw [hP]
   cases (bkB qd sg (qz qd) 63 (qz qd) ((n::r).map Num.val)).tail <;>rfl
  cases qd
  ·refine vFamA _ t3s [(a,lst (numVs (n::r)) epa)] (fun _ _=>fun p hp=>List.mem_singleton.mp hp▸.head _) ?_ ?_
   ·exact fun tf htf w s N0 t0 G_ D_ I_=>
     .ui 0x100000000080000002008020080200802000000080200802008020080200000002 (sEnumI a (numVs (n::r)) epa) [] [2,5,8] (sEnumI_valid) (inW D_ (fun p hp=>imm1 hp)) tt fun x1 N1 t1=>
     .uq 0x1040000400004010040000400004010 (sPlE w (pdR N0 t0 a sg tsg wd twd x1.fst x1.snd) false (numVs (n::r)) epa (numLed (n::r)) 0 (plF0 w (pdR N0 t0 a sg tsg wd twd x1.fst x1.snd) false 63 (t0+7)) Value.none [] 0 (t0+4) 0 [] 0 tf (plPost false sg 0 63 (qz false) tf ((n::r).map Num.val))) [1,10,13,4,7] [1,4,7] (plE_of (K tf htf _ (pdR _ _ _ _ _ _ _ _ _) rfl _ _ _ _ _ _) (hx tf)) (inJ I_) tt fun x2 N2 t2 h2=>
     psGetInt 0x40a0000a0280000007 (Value.type "list") none (N0+1) ([]++[iv x2.b x2.tb]) x2.epb (-1) (t2+1) (iv x2.b x2.tb) _ seq_m1.1 seq_m1.2 fits_m1 [4] [1,4,7] fun x3 N3 t3=>
     piAdd 0x100007 x2.b x2.tb 0 (t3+0) (x2.b+0) rfl [1,4,7] fun x4 N4 t4=>
     psSetLast 0x1028000280a (N0+1) [] (iv x2.b x2.tb) x2.epb (t2+1) (iv (x2.b+0) x4) (by simp) [4] [1,4,7] fun x5 N5 t5=>
     psGetInt 0x1028000280a0280701c07 (Value.type "list") none (N0+1) ([]++[iv (x2.b+0) x4]) x5 0 (t5+1) (iv (x2.b+0) x4) 0 rfl rfl (fits_nat 0 (by decide)) [4] [1,7,2] fun x6 N6 t6=>
     .use 0x100000000070000001c07 (sEnumI (N0+2) [] x2.epp) [] [1,7] [(4,N0+2,lst [] x2.epp)] (sEnumI_valid) (fun p hp=>.inr (iR hp)) fun x7 N7 t7 _=>
     .ui 0x103400034000340d03400034000340d (sP30 w (pdR N0 t0 a sg tsg wd twd x1.fst x1.snd) false x2.ah x2.tah tf x2.V (P3R.mk x7.fst x7.snd N5 t5 t6) (x2.b+0) x4 x2.epp) [1,7,10] [1,4] (sP30_valid _ _) (fun p hp=>.inr (iL (iR hp))) tt fun x8 N8 t8=>
     endQ D_ 0x1007 (⟨N5,[],0⟩:PdX) [] [4] [] fun s' O=>⟨_,fin _,rfl,rfl,O.noGi⟩
   kernel_rfl
  ·refine vFamA _ t3s [(a,lst (numVs (n::r)) epa)] (fun _ _=>fun p hp=>List.mem_singleton.mp hp▸.head _) ?_ ?_
   ·exact fun tf htf w s N0 t0 G_ D_ I_=>
     .ui 0x100000000080000002008020080200802000000080200802008020080200000002 (sEnumI a (numVs (n::r)) epa) [] [2,5,8] (sEnumI_valid) (inW D_ (fun p hp=>imm1 hp)) tt fun x1 N1 t1=>
     .uq 0x1040000400004010040000400004010 (sPlE w (pdR N0 t0 a sg tsg wd twd x1.fst x1.snd) true (numVs (n::r)) epa (numLed (n::r)) 0 (plF0 w (pdR N0 t0 a sg tsg wd twd x1.fst x1.snd) true 63 (t0+7)) Value.none [] 1 (t0+4) 0 [] 0 tf (plPost true sg 0 63 (qz true) tf ((n::r).map Num.val))) [1,10,13,4,7] [1,4,7] (plE_of (K tf htf _ (pdR _ _ _ _ _ _ _ _ _) rfl _ _ _ _ _ _) (hx tf)) (inJ I_) tt fun x2 N2 t2 h2=>
     psGetInt 0x40a0000a0280000007 (Value.type "list") none (N0+1) ([]++[iv x2.b x2.tb]) x2.epb (-1) (t2+1) (iv x2.b x2.tb) _ seq_m1.1 seq_m1.2 fits_m1 [4] [1,4,7] fun x3 N3 t3=>
     piAdd 0x100007 x2.b x2.tb 1 (t3+0) (x2.b+1) rfl [1,4,7] fun x4 N4 t4=>
     psSetLast 0x1028000280a (N0+1) [] (iv x2.b x2.tb) x2.epb (t2+1) (iv (x2.b+1) x4) (by simp) [4] [1,4,7] fun x5 N5 t5=>
     psGetInt 0x1028000280a0280701c07 (Value.type "list") none (N0+1) ([]++[iv (x2.b+1) x4]) x5 0 (t5+1) (iv (x2.b+1) x4) 0 rfl rfl (fits_nat 0 (by decide)) [4] [1,7,2] fun x6 N6 t6=>
     .use 0x100000000070000001c07 (sEnumI (N0+2) [] x2.epp) [] [1,7] [(4,N0+2,lst [] x2.epp)] (sEnumI_valid) (fun p hp=>.inr (iR hp)) fun x7 N7 t7 _=>
     .ui 0x103400034000340d03400034000340d (sP30 w (pdR N0 t0 a sg tsg wd twd x1.fst x1.snd) true x2.ah x2.tah tf x2.V (P3R.mk x7.fst x7.snd N5 t5 t6) (x2.b+1) x4 x2.epp) [1,7,10] [1,4] (sP30_valid _ _) (fun p hp=>.inr (iL (iR hp))) tt fun x8 N8 t8=>
     endQ D_ 0x1007 (⟨N5,[],0⟩:PdX) [] [4] [] fun s' O=>⟨_,fin _,rfl,rfl,O.noGi⟩
   kernel_rfl
 ·have hne:∀tf x,plPost qd sg 0 63 (qz qd) tf ((n::r).map Num.val) x->x.ps≠[]:=fun tf x hx h=>hP (by rw [←hx.2.1,h];rfl)
  have hbl:∀tf (x:PlX),plPost qd sg 0 63 (qz qd) tf ((n::r).map Num.val) x->∀z,z=qz qd->bkB qd sg (qz qd) 63 (qz qd) ((n::r).map Num.val)=x.bi.map (·.1)++[x.b+z]:=fun tf x hx z hz=>by rw [hz];exact bkB_z _ _ _ _ _ _ _ _ hx.1
  have K3:∀tf (x:PlX),plPost qd sg 0 63 (qz qd) tf ((n::r).map Num.val) x->∀(z:Nat),z=qz qd->∀(w:World) (R:PlR),R.wd=wd->∀(Z:P3R) (x4 x5:Nat),Vd w (sP3 w R qd x.ah x.tah tf Z ([]++ivs x.ps) x.epp (([]++ivs x.bi)++[iv (x.b+z) x4]) x5 0 (p3F w R qd x.ah x.tah tf x.V Z ((x.bi++[(x.b+z,x4)]).headD (0,0)).1 ((x.bi++[(x.b+z,x4)]).headD (0,0)).2) .none [] 0 (p3Post wd ((x.bi.map (·.1)++[x.b+z]).headD 0) ((x.bi.map (·.1)++[x.b+z]).tail) (x.ps.map (·.1)))):=fun tf x hx z hz w R hR Z x4 x5=>by
   have hl:=lens tf x hx
   have hps:=hne tf x hx
   have hpl:x.ps.length<=400:=by have:=congrArg List.length hx.2.1;rw [List.length_map] at this;lia
   cases hq:x.ps with
   | nil=>exact absurd hq hps
   | cons p ps'=>
    obtain ⟨p,tp⟩:=p
    rw [hq] at hl hpl
    cases hb:x.bi with
    | nil=>rw [hb] at hl;simp at hl
    | cons c0 bi'=>
     rw [hb] at hl
     have e:bi'++[(x.b+z,x4)]=(bi'++[(x.b+z,x4)]).headD (0,0)::(bi'++[(x.b+z,x4)]).tail:=by cases bi' <;>rfl
     have e2:(([]++ivs (c0::bi'))++[iv (x.b+z) x4])=ivs (c0::(((bi'++[(x.b+z,x4)]).headD (0,0)).1,((bi'++[(x.b+z,x4)]).headD (0,0)).2)::(bi'++[(x.b+z,x4)]).tail):=by
      have:ivs (c0::(bi'++[(x.b+z,x4)]))=(([]++ivs (c0::bi'))++[iv (x.b+z) x4]):=by simp [ivs]
      rw [←this,e];simp
     have z1:=sP31_valid R qd x.ah x.tah tf Z x.epp x5 p tp ps' c0 ((bi'++[(x.b+z,x4)]).headD (0,0)).1 ((bi'++[(x.b+z,x4)]).headD (0,0)).2 (bi'++[(x.b+z,x4)]).tail (by simp at hl ⊢;lia) (by simp at hpl;exact leT ‹_› rfl) w x.V c0.1 c0.2 .none 0
     rw [hR,←e2] at z1
     have e3:((bi'++[(x.b+z,x4)]).headD (0,0)).1::((bi'++[(x.b+z,x4)]).tail).map Prod.fst=bi'.map (·.1)++[x.b+z]:=by
      have:=congrArg (List.map Prod.fst) e
      rw [List.map_append,List.map_cons] at this
      exact this.symm
     rw [e3] at z1
     exact z1
  have fin:∀tf (x:PlX),plPost qd sg 0 63 (qz qd) tf ((n::r).map Num.val) x->∀(z:Nat),z=qz qd->∀(y:P3X),p3Post wd ((x.bi.map (·.1)++[x.b+z]).headD 0) ((x.bi.map (·.1)++[x.b+z]).tail) (x.ps.map (·.1)) y->∀p,pdPost qd sg wd ((n::r).map Num.val) ⟨p,y.us,y.ep⟩:=fun tf x hx z hz y hy p=>by
   show y.us.map (·.1)=partedOf _ _ _ _
   rw [show y.us.map (·.1)=_ from hy]
   unfold partedOf
   rw [hbl tf x hx z hz,hx.2.1]
  have get0:∀(w:World) (a:Nat) (x:PlX) (z x4 x5 t:Nat),Vd w (sGetInt (.type "list") none a (([]++ivs x.bi)++[iv (x.b+z) x4]) x5 0 t (iv ((x.bi++[(x.b+z,x4)]).headD (0,0)).1 ((x.bi++[(x.b+z,x4)]).headD (0,0)).2)):=fun w a x z x4 x5 t=>sGetInt_valid 0 (by unfold seqIndex?;simp) (by cases x.bi <;>simp [ivs]) (fits_nat 0 (by decide))
  have lenb:∀tf (x:PlX),plPost qd sg 0 63 (qz qd) tf ((n::r).map Num.val) x->([]++ivs x.bi).length<=1000:=fun tf x hx=>by
   have h1:=lens tf x hx
   have h2:=congrArg List.length hx.2.1
   rw [List.length_map] at h2
   simp [ivs];lia
  cases qd
  ·refine vFamA _ t3s [(a,lst (numVs (n::r)) epa)] (fun _ _=>fun p hp=>List.mem_singleton.mp hp▸.head _) ?_ ?_
   ·refine fun tf htf w s N0 t0 G_ D_ I_=>
     .ui 0x100000000080000002008020080200802000000080200802008020080200000002 (sEnumI a (numVs (n::r)) epa) [] [2,5,8] (sEnumI_valid) (inW D_ (fun p hp=>imm1 hp)) tt fun x1 N1 t1=>
     .uq 0x1040000400004010040000400004010 (sPlK w (pdR N0 t0 a sg tsg wd twd x1.fst x1.snd) false (numVs (n::r)) epa (numLed (n::r)) 0 (plF0 w (pdR N0 t0 a sg tsg wd twd x1.fst x1.snd) false 63 (t0+7)) Value.none [] 0 (t0+4) 0 [] 0 tf (plPost false sg 0 63 (qz false) tf ((n::r).map Num.val))) [1,10,13,4,7] [1,4,7] (plK_of (K tf htf _ (pdR _ _ _ _ _ _ _ _ _) rfl _ _ _ _ _ _) fun x hx=>hx.2.2) (inJ I_) tt fun x2 N2 t2 h2=>
     psGetInt 0x40a0000a0280000007 (Value.type "list") none (N0+1) ([]++ivs x2.bi++[iv x2.b x2.tb]) x2.epb (-1) (t2+1) (iv x2.b x2.tb) _ seq_m1.1 seq_m1.2 fits_m1 [4] [1,4,7] fun x3 N3 t3=>
     piAdd 0x100007 x2.b x2.tb 0 (t3+0) (x2.b+0) rfl [1,4,7] fun x4 N4 t4=>
     psSetLast 0x1028000280a (N0+1) ([]++ivs x2.bi) (iv x2.b x2.tb) x2.epb (t2+1) (iv (x2.b+0) x4) (by have:=lenb tf x2 h2;exact leT ‹_› rfl) [4] [1,4,7] fun x5 N5 t5=>
     .u 0x1028000280a0280701c07 (sGetInt (Value.type "list") none (N0+1) ([]++ivs x2.bi++[iv (x2.b+0) x4]) x5 0 (t5+1) (iv ((fun (x:PlX) (x4:Nat)=>(x.bi++[(x.b+0,x4)]).headD (0,0)) x2 x4).fst ((fun (x:PlX) (x4:Nat)=>(x.bi++[(x.b+0,x4)]).headD (0,0)) x2 x4).snd)) [4] [1,4,7,2] (get0 _ _ x2 0 x4 x5 _) tt fun x6 N6 t6=>
     .use 0x100000000070000001c07 (sEnumI (N0+2) ([]++ivs x2.ps) x2.epp) [] [1,4,10] [(7,N0+2,lst ([]++ivs x2.ps) x2.epp)] (sEnumI_valid) (fun p hp=>.inr (iR hp)) fun x7 N7 t7 _=>
     .use 0x1040000400004010040000400004010 (sP3 w (pdR N0 t0 a sg tsg wd twd x1.fst x1.snd) false x2.ah x2.tah tf (P3R.mk x7.fst x7.snd N5 t5 t6) ([]++ivs x2.ps) x2.epp ([]++ivs x2.bi++[iv (x2.b+0) x4]) x5 0 (p3F w (pdR N0 t0 a sg tsg wd twd x1.fst x1.snd) false x2.ah x2.tah tf x2.V (P3R.mk x7.fst x7.snd N5 t5 t6) ((fun (x:PlX) (x4:Nat)=>(x.bi++[(x.b+0,x4)]).headD (0,0)) x2 x4).fst ((fun (x:PlX) (x4:Nat)=>(x.bi++[(x.b+0,x4)]).headD (0,0)) x2 x4).snd) Value.none [] 0 ((fun x=>p3Post wd ((x.bi.map Prod.fst++[x.b+0]).headD 0) ((x.bi.map Prod.fst++[x.b+0]).tail) (x.ps.map Prod.fst)) x2)) [1,10,13,7] [1,7] [(4,N0+1,lst (([]++ivs x2.bi)++[iv (x2.b+0) x4]) x5)] (K3 tf x2 h2 0 rfl _ (pdR _ _ _ _ _ _ _ _ _) rfl _ _ _) (inW D_ (fun p hp=>?_)) fun x8 N8 t8 h8=>
     endQ D_ 0x1007 (⟨N5,x8.us,x8.ep⟩:PdX) [] [4] [] fun s' O=>⟨_,fin tf x2 h2 0 rfl x8 h8 _,rfl,rfl,O.noGi⟩
    rcases iC hp with rfl | hp
    ·exact .inr (iL (iR (List.mem_singleton_self _)))
    ·exact .inr (iR hp)
   kernel_rfl
  ·refine vFamA _ t3s [(a,lst (numVs (n::r)) epa)] (fun _ _=>fun p hp=>List.mem_singleton.mp hp▸.head _) ?_ ?_
   ·refine fun tf htf w s N0 t0 G_ D_ I_=>
     .ui 0x100000000080000002008020080200802000000080200802008020080200000002 (sEnumI a (numVs (n::r)) epa) [] [2,5,8] (sEnumI_valid) (inW D_ (fun p hp=>imm1 hp)) tt fun x1 N1 t1=>
     .uq 0x1040000400004010040000400004010 (sPlK w (pdR N0 t0 a sg tsg wd twd x1.fst x1.snd) true (numVs (n::r)) epa (numLed (n::r)) 0 (plF0 w (pdR N0 t0 a sg tsg wd twd x1.fst x1.snd) true 63 (t0+7)) Value.none [] 1 (t0+4) 0 [] 0 tf (plPost true sg 0 63 (qz true) tf ((n::r).map Num.val))) [1,10,13,4,7] [1,4,7] (plK_of (K tf htf _ (pdR _ _ _ _ _ _ _ _ _) rfl _ _ _ _ _ _) fun x hx=>hx.2.2) (inJ I_) tt fun x2 N2 t2 h2=>
     psGetInt 0x40a0000a0280000007 (Value.type "list") none (N0+1) ([]++ivs x2.bi++[iv x2.b x2.tb]) x2.epb (-1) (t2+1) (iv x2.b x2.tb) _ seq_m1.1 seq_m1.2 fits_m1 [4] [1,4,7] fun x3 N3 t3=>
     piAdd 0x100007 x2.b x2.tb 1 (t3+0) (x2.b+1) rfl [1,4,7] fun x4 N4 t4=>
     psSetLast 0x1028000280a (N0+1) ([]++ivs x2.bi) (iv x2.b x2.tb) x2.epb (t2+1) (iv (x2.b+1) x4) (by have:=lenb tf x2 h2;exact leT ‹_› rfl) [4] [1,4,7] fun x5 N5 t5=>
     .u 0x1028000280a0280701c07 (sGetInt (Value.type "list") none (N0+1) ([]++ivs x2.bi++[iv (x2.b+1) x4]) x5 0 (t5+1) (iv ((fun (x:PlX) (x4:Nat)=>(x.bi++[(x.b+1,x4)]).headD (0,0)) x2 x4).fst ((fun (x:PlX) (x4:Nat)=>(x.bi++[(x.b+1,x4)]).headD (0,0)) x2 x4).snd)) [4] [1,4,7,2] (get0 _ _ x2 1 x4 x5 _) tt fun x6 N6 t6=>
     .use 0x100000000070000001c07 (sEnumI (N0+2) ([]++ivs x2.ps) x2.epp) [] [1,4,10] [(7,N0+2,lst ([]++ivs x2.ps) x2.epp)] (sEnumI_valid) (fun p hp=>.inr (iR hp)) fun x7 N7 t7 _=>
     .use 0x1040000400004010040000400004010 (sP3 w (pdR N0 t0 a sg tsg wd twd x1.fst x1.snd) true x2.ah x2.tah tf (P3R.mk x7.fst x7.snd N5 t5 t6) ([]++ivs x2.ps) x2.epp ([]++ivs x2.bi++[iv (x2.b+1) x4]) x5 0 (p3F w (pdR N0 t0 a sg tsg wd twd x1.fst x1.snd) true x2.ah x2.tah tf x2.V (P3R.mk x7.fst x7.snd N5 t5 t6) ((fun (x:PlX) (x4:Nat)=>(x.bi++[(x.b+1,x4)]).headD (0,0)) x2 x4).fst ((fun (x:PlX) (x4:Nat)=>(x.bi++[(x.b+1,x4)]).headD (0,0)) x2 x4).snd) Value.none [] 0 ((fun x=>p3Post wd ((x.bi.map Prod.fst++[x.b+1]).headD 0) ((x.bi.map Prod.fst++[x.b+1]).tail) (x.ps.map Prod.fst)) x2)) [1,10,13,7] [1,7] [(4,N0+1,lst (([]++ivs x2.bi)++[iv (x2.b+1) x4]) x5)] (K3 tf x2 h2 1 rfl _ (pdR _ _ _ _ _ _ _ _ _) rfl _ _ _) (inW D_ (fun p hp=>?_)) fun x8 N8 t8 h8=>
     endQ D_ 0x1007 (⟨N5,x8.us,x8.ep⟩:PdX) [] [4] [] fun s' O=>⟨_,fin tf x2 h2 1 rfl x8 h8 _,rfl,rfl,O.noGi⟩
    rcases iC hp with rfl | hp
    ·exact .inr (iL (iR (List.mem_singleton_self _)))
    ·exact .inr (iR hp)
   kernel_rfl
structure DuR where
 F:Nat
 a:Nat
 z:Nat
 it:Nat
 pd:Nat
 W:Nat
 sg:Nat
 tsg:Nat
 q:Nat->Nat
structure DuV where
 qk:Nat
 kv:Value
 qn:Nat
 nv:Value
def stDu (w:World):Stmt:=atS (fnBody w 308) 1 []
def duB (R:DuR) (qd:Bool) (l:List (Str×Nat×Value)):List (Str×Nat×Value):=
 ("numbers",R.q 0,.ref R.a)::("code",R.q 1,iv R.sg R.tsg)::("parted",R.q 2,.ref R.pd)::("quoted",R.q 3,.bool qd)::("words",R.q 4,.ref R.W)::l
def duF (w:World) (R:DuR) (qd:Bool):Bool->DuV->Obj
 | true,_=>frameO w (duB R qd []) 5
 | false,V=>frameO w (duB R qd [("k",V.qk,V.kv),("number",V.qn,V.nv)]) 7
def DuV.up (V:DuV) (t0 i u:Nat) (n:Num):Bool->DuV
 | true=>⟨t0,iv i u,t0+1,.ref n.at_⟩
 | false=>⟨V.qk,iv i u,V.qn,.ref n.at_⟩
structure Wd where
 at_:Nat
 ep:Nat
 ns:List Num
def Wd.led (x:Wd):Nat×Obj:=(x.at_,lst (numVs x.ns) x.ep)
noncomputable def wdVs (l:List Wd):LV:=l.map fun x=>.ref x.at_
structure DuX where
 first:List Num
 epf:Nat
 rest:List Wd
 nums:List Num
 epW:Nat
 V:DuV
 i:Nat
 lv:Value
def sDu (w:World) (R:DuR) (qd:Bool) (nvs:LV) (epa:Nat) (im:Led) (us:List (Nat×Nat)) (epd i:Nat) (fo:Obj) (lv:Value) (ws:LV) (epW cur:Nat) (xs:LV) (epc:Nat) (post:DuX->Prop):Summ where
 code:=loopC (stDu w) (.ref R.z) (fnEnv w 308 R.F [])
 need:=[(R.F,fo),(R.z,enumV .none R.it (Int.ofNat i) lv),(R.it,iterO R.a i),(R.W,lst (ws++[.ref cur]) epW),(cur,lst xs epc)]
 imm:=(R.a,lst nvs epa)::(R.pd,lst (ivs us) epd)::im
 Res:=DuX
 post:=post
 res:=fun _=>.ok .next
 upd:=fun x=>[duF w R qd false x.V,enumV .none R.it (Int.ofNat x.i) x.lv,iterE x.i,lst ((ws++[.ref cur])++wdVs x.rest) x.epW,lst (xs++numVs x.first) x.epf]
 giveImm:=fun x=>x.rest.map Wd.led++numLed x.nums
 giv:=true
 d:=30
 u:=60
def duU (R:DuR) (i:Nat) (fo:Obj) (a lv:Value) (ws:LV) (epW cur:Nat) (xs:LV) (epc:Nat):List Obj:=[fo,enumV a R.it (Int.ofNat i) lv,iterO R.a i,lst (ws++[.ref cur]) epW,lst xs epc]
def sDuT (w:World) (R:DuR) (qd:Bool) (nvs:LV) (epa:Nat) (im:Led) (us:List (Nat×Nat)) (epd i:Nat) (fo:Obj) (lv:Value) (ws:LV) (epW cur:Nat) (xs:LV) (epc:Nat) (post:DuX->Prop) (n:Num) (T u:Nat):Summ:=
 tailS (sDu w R qd nvs epa im us epd i fo lv ws epW cur xs epc post) (duU R (i+1) fo .none (.ref n.at_) ws epW cur xs epc) [(T,tup [iv i u,.ref n.at_])]
theorem isTupDu {w:World}:isTupFor (stDu w)=true:=by kernel_rfl
structure DuPost (qd:Bool) (sg:Nat) (P:LN) (k:Nat) (im:Led) (rest:List LN) (x:DuX):Prop where
 first:x.first.map Num.val=(dueN qd sg P k rest).1
 more:x.rest.map (fun y=>y.ns.map Num.val)=(dueN qd sg P k rest).2
 inn:∀m,m∈x.first\/(∃y∈x.rest,m∈y.ns)->m.led∈im\/m∈x.nums
section
variable (R:DuR) (qd:Bool) (nvs:LV) (epa:Nat) (im:Led) (us:List (Nat×Nat)) (epd i:Nat) (lv:Value) (ws:LV) (epW cur:Nat) (xs:LV) (epc:Nat) (post:DuX->Prop) (n:Num) (fo:World->Obj)
theorem sDu_turn (w:World) (h1:nvs[i]? =some (.ref n.at_))
  (H:∀T u,OwnT w (sDuT w R qd nvs epa im us epd i (fo w) lv ws epW cur xs epc post n T u) (tailZ (stDu w) (.ref R.z) (.ref T) (fnEnv w 308 R.F []))):
  Vd w (sDu w R qd nvs epa im us epd i (fo w) lv ws epW cur xs epc post):=by
 refine valid_turnX (w:=w) (S:=sDu w R qd nvs epa im us epd i (fo w) lv ws epW cur xs epc post) (st:=stDu w) (z:=R.z) (env:=fnEnv w 308 R.F [])
  (Res1:=Nat×Nat) (post1:=fun _=>True) (a:=fun y=>y.1) (upd1:=fun y=>duU R (i+1) (fo w) (.int (Int.ofNat y.1) 0) (.ref n.at_) ws epW cur xs epc) (new1:=fun y=>[(y.1,tup [iv i y.2,.ref n.at_])])
  (fun _=>duU R (i+1) (fo w) .none (.ref n.at_) ws epW cur xs epc) (fun y=>enumV (.int (Int.ofNat y.1) 0) R.it (Int.ofNat (i+1)) (.ref n.at_)) (fun _=>enumV .none R.it (Int.ofNat (i+1)) (.ref n.at_))
  (isTupDu) rfl rfl (fun _=>rfl) (fun y s A Q E es k tp h hQ=>go_enum y.1 s A Q E es k tp h hQ) (fun x=>?_) 1 rfl (fun _=>rfl) ?_ ?_ (fun y _=>H y.1 y.2)
 ·simp [sDu,duU,rezip]
 ·simp [sDu]
 ·clear H
  revert w
  refine vRowT (fun w=>headZ (stDu w) (.ref R.z)) [] roNil ?_ ?_
  ·exact fun w s N0 t0 G_ D_ I_=>
    psItNI 0x103000030090000900009 R.it R.a i (Value.type "list") none nvs epa (Value.ref n.at_) h1 [6] [] (inS (I_ _ (.head _))) fun x1 N1 t1=>
    endQ D_ 0x402409024090240902409024090240902409 (N1,t1) [0,3,6,9,12] [2] [] fun s' O=>⟨(N1,t1),trivial,rfl,rfl,O.noGi⟩
  kernel_rfl
end
section
variable {R:DuR} {qd:Bool} {nvs:LV} {epa:Nat} {im:Led} {us:List (Nat×Nat)} {epd i:Nat} {lv:Value} {ws:LV} {epW cur:Nat} {xs:LV} {epc:Nat} {n:Num} {T u:Nat} {w:World} {fo:Obj} {s s':Shared} {rest:List LN} {P:LN} {x:DuX} {li:Led}
theorem du_finN (hm:n.led∈im) (hk:i∉P) (hx:DuPost qd R.sg P (i+1) im rest x) (hli:∀q∈x.rest.map Wd.led++numLed x.nums,q∈li)
  (O:Out s s' ((sDuT w R qd nvs epa im us epd i fo lv ws epW cur xs epc (DuPost qd R.sg P i im (n.val::rest)) n T u).need.map (·.1)) (rezip (sDuT w R qd nvs epa im us epd i fo lv ws epW cur xs epc (DuPost qd R.sg P i im (n.val::rest)) n T u).need
   [duF w R qd false x.V,enumV .none R.it (Int.ofNat x.i) x.lv,iterE x.i,lst ((ws++[.ref cur])++wdVs x.rest) x.epW,lst ((xs++[.ref n.at_])++numVs x.first) x.epf]) [] li):
  Post (sDuT w R qd nvs epa im us epd i fo lv ws epW cur xs epc (DuPost qd R.sg P i im (n.val::rest)) n T u) s (.ok .next) s':=by
 refine ⟨(⟨n::x.first,x.epf,x.rest,x.nums,x.epW,x.V,x.i,x.lv⟩:DuX),⟨?_,?_,?_⟩,rfl,rfl,?_⟩
 ·rw [dueN_cons,if_neg hk]
  show n.val::x.first.map Num.val=_
  rw [hx.first]
 ·rw [dueN_cons,if_neg hk];exact hx.more
 ·rintro m (h | h)
  ·rcases iC h with rfl | h
   ·exact .inl hm
   ·exact hx.inn m (.inl h)
  ·exact hx.inn m (.inr h)
 ·rw [List.append_assoc xs] at O
  exact O.sub hli
theorem du_finQ {m tm c:Nat} {pr:List (Nat×Nat)} (hpr:preN n.val=pr.map Prod.fst) (hk:i∈P) (hx:DuPost true R.sg P (i+1) im rest x) (hli:∀q∈x.rest.map Wd.led++numLed x.nums,q∈li) (h1:(m,lst (ivs pr++[iv 10 (tm+0)]) 0)∈li) (h2:(c,lst [iv R.sg R.tsg] 0)∈li)
  (O:Out s s' ((sDuT w R true nvs epa im us epd i fo lv ws epW cur xs epc (DuPost true R.sg P i im (n.val::rest)) n T u).need.map (·.1)) (rezip (sDuT w R true nvs epa im us epd i fo lv ws epW cur xs epc (DuPost true R.sg P i im (n.val::rest)) n T u).need
   [duF w R true false x.V,enumV .none R.it (Int.ofNat x.i) x.lv,iterE x.i,lst ((ws++[.ref cur])++wdVs x.rest) x.epW,lst (((xs++[.ref m])++[.ref c])++numVs x.first) x.epf]) [] li):
  Post (sDuT w R true nvs epa im us epd i fo lv ws epW cur xs epc (DuPost true R.sg P i im (n.val::rest)) n T u) s (.ok .next) s':=by
 refine ⟨(⟨⟨m,0,pr++[(10,tm+0)]⟩::⟨c,0,[(R.sg,R.tsg)]⟩::x.first,x.epf,x.rest,⟨m,0,pr++[(10,tm+0)]⟩::⟨c,0,[(R.sg,R.tsg)]⟩::x.nums,x.epW,x.V,x.i,x.lv⟩:DuX),⟨?_,?_,?_⟩,rfl,rfl,?_⟩
 ·rw [dueN_cons,if_pos hk,if_pos rfl]
  show (pr++[(10,tm+0)]).map Prod.fst::[R.sg]::x.first.map Num.val=_
  rw [hx.first,List.map_append,hpr];rfl
 ·rw [dueN_cons,if_pos hk,if_pos rfl];exact hx.more
 ·rintro y (h | h)
  ·rcases iC h with rfl | h
   ·exact .inr (.head _)
   ·rcases iC h with rfl | h
    ·exact .inr (.tail _ (.head _))
    ·exact (hx.inn y (.inl h)).imp id fun h=>.tail _ (.tail _ h)
  ·exact (hx.inn y (.inr h)).imp id fun h=>.tail _ (.tail _ h)
 ·rw [List.append_assoc (xs++[Value.ref m]),List.append_assoc xs] at O
  refine O.sub fun q hq=>?_
  rcases iA hq with hq | hq
  ·exact hli q (iL hq)
  ·rcases iC hq with rfl | hq
   ·have e:(⟨m,0,pr++[(10,tm+0)]⟩:Num).led=(m,lst (ivs pr++[iv 10 (tm+0)]) 0):=by
     show (m,seqL _ _ (ivs (pr++[(10,tm+0)])) 0)=_
     rw [show ivs (pr++[(10,tm+0)])=ivs pr++[iv 10 (tm+0)] by simp [ivs]];rfl
    rw [e];exact h1
   ·rcases iC hq with rfl | hq
    ·exact h2
    ·exact hli q (iR hq)
theorem du_finB {m tm c ea:Nat} {pr:List (Nat×Nat)} (hpr:preN n.val=pr.map Prod.fst) (hk:i∈P) (hx:DuPost false R.sg P (i+1) im rest x) (hli:∀q∈x.rest.map Wd.led++numLed x.nums,q∈li) (h1:(m,lst (ivs pr++[iv 10 (tm+0)]) 0)∈li) (h2:(c,lst ([]++numVs x.first) x.epf)∈li)
  (O:Out s s' ((sDuT w R false nvs epa im us epd i fo lv ws epW cur xs epc (DuPost false R.sg P i im (n.val::rest)) n T u).need.map (·.1)) (rezip (sDuT w R false nvs epa im us epd i fo lv ws epW cur xs epc (DuPost false R.sg P i im (n.val::rest)) n T u).need
   [duF w R false false x.V,enumV .none R.it (Int.ofNat x.i) x.lv,iterE x.i,lst (((ws++[.ref cur])++[.ref c])++wdVs x.rest) x.epW,lst (xs++[.ref m]) ea]) [] li):
  Post (sDuT w R false nvs epa im us epd i fo lv ws epW cur xs epc (DuPost false R.sg P i im (n.val::rest)) n T u) s (.ok .next) s':=by
 refine ⟨(⟨[⟨m,0,pr++[(10,tm+0)]⟩],ea,⟨c,x.epf,x.first⟩::x.rest,⟨m,0,pr++[(10,tm+0)]⟩::x.nums,x.epW,x.V,x.i,x.lv⟩:DuX),⟨?_,?_,?_⟩,rfl,rfl,?_⟩
 ·rw [dueN_cons,if_pos hk,if_neg (by decide)]
  show [(pr++[(10,tm+0)]).map Prod.fst]=_
  rw [List.map_append,hpr];rfl
 ·rw [dueN_cons,if_pos hk,if_neg (by decide)]
  show x.first.map Num.val::x.rest.map _=_
  rw [hx.first,hx.more]
 ·rintro y (h | ⟨z,hz,h⟩)
  ·have:y=(⟨m,0,pr++[(10,tm+0)]⟩:Num):=by simpa using h
   exact .inr (this▸.head _)
  ·rcases iC hz with rfl | hz
   ·exact (hx.inn y (.inl h)).imp id fun h=>.tail _ h
   ·exact (hx.inn y (.inr ⟨z,hz,h⟩)).imp id fun h=>.tail _ h
 ·rw [List.append_assoc (ws++[Value.ref cur])] at O
  refine O.sub fun q hq=>?_
  rcases iA hq with hq | hq
  ·rcases iC hq with rfl | hq
   ·exact h2
   ·exact hli q (iL hq)
  ·rcases iC hq with rfl | hq
   ·have e:(⟨m,0,pr++[(10,tm+0)]⟩:Num).led=(m,lst (ivs pr++[iv 10 (tm+0)]) 0):=by
     show (m,seqL _ _ (ivs (pr++[(10,tm+0)])) 0)=_
     rw [show ivs (pr++[(10,tm+0)])=ivs pr++[iv 10 (tm+0)] by simp [ivs]];rfl
    rw [e];exact h1
   ·exact hli q (iR hq)
end
theorem ref_m1 {ws:LV} {cur:Nat} {epW W:Nat} {w:World} {t:Nat}:Vd w (sGetInt (.type "list") none W (ws++[.ref cur]) epW (-1) t (.ref cur)):=sGetInt_valid _ seq_m1.1 (seq_m1 (u:=Value.ref cur)).2 fits_m1
section
variable (R:DuR) (qd:Bool)
theorem sDu_tail (nvs:LV) (epa:Nat) (im:Led) (us:List (Nat×Nat)) (epd i:Nat) (n:Num) (rest:List LN) (hm:n.led∈im) (h0:n.fs≠[]) (h3:n.fs.length<=1000)
  (ih:∀(w:World) (V:DuV) (lv:Value) (ws:LV) (epW cur:Nat) (xs:LV) (epc:Nat),ws.length<=i+1->xs.length<=2*(i+1)->Vd w (sDu w R qd nvs epa im us epd (i+1) (duF w R qd false V) lv ws epW cur xs epc (DuPost qd R.sg (us.map (·.1)) (i+1) im rest)))
  (w:World) (b:Bool) (V:DuV) (lv:Value) (ws:LV) (epW cur:Nat) (xs:LV) (epc:Nat) (hi:i<=1000) (hws:ws.length<=i) (hxs:xs.length<=2*i) (T u:Nat):
  OwnT w (sDuT w R qd nvs epa im us epd i (duF w R qd b V) lv ws epW cur xs epc (DuPost qd R.sg (us.map (·.1)) i im (n.val::rest)) n T u) (tailZ (stDu w) (.ref R.z) (.ref T) (fnEnv w 308 R.F [])):=by
 have ro:∀p∈[(R.pd,lst (ivs us) epd),n.led],p∈(R.a,lst nvs epa)::(R.pd,lst (ivs us) epd)::im:=fun p hp=>by
  rcases iC hp with rfl | hp
  ·exact .tail _ (.head _)
  ·exact List.mem_singleton.mp hp▸.tail _ (.tail _ hm)
 have imP:∀{p:Nat×Obj} {bag:Led},p∈[(R.pd,lst (ivs us) epd)]->p∈(R.a,lst nvs epa)::(R.pd,lst (ivs us) epd)::im\/p∈bag:=fun h=>.inl (List.mem_singleton.mp h▸.tail _ (.head _))
 have imN:∀{p:Nat×Obj} {bag:Led},p∈[n.led]->p∈(R.a,lst nvs epa)::(R.pd,lst (ivs us) epd)::im\/p∈bag:=fun h=>.inl (List.mem_singleton.mp h▸.tail _ (.tail _ hm))
 have hany:∀r,(us.any fun p=>p.1==i)=r↔(decide (i∈us.map (·.1)))=r:=fun r=>by
  have:(us.any fun p=>p.1==i)=decide (i∈us.map (·.1)):=by
   rw [Bool.eq_iff_iff];simp
  rw [this]
 by_cases hk:i∈us.map (·.1)
 ·obtain ⟨r0,e,ue,h,he,hpre⟩:=num_split h0
  have hr0:r0.length<=1000:=by have:=congrArg List.length h;simp at this;lia
  have hpre:preN n.val=r0.map Prod.fst:=hpre
  cases qd
  ·revert w b
   refine vFamT (fun w b=>tailZ (stDu w) (.ref R.z) (.ref T) (fnEnv w 308 R.F [])) _ bools [(R.pd,lst (ivs us) epd),n.led] (fun _ _=>ro) ?_ ?_
   ·refine fun b w s N0 t0 G_ D_ I_=>
     .ui 0x600002008000601806018060180e0200805408020000200002008020150200800008000080200805408020000200002008000150001505415 (sInI R.pd us epd i u true) [] [] (sInI_valid ((hany _).mpr (by simpa using hk))) (inW D_ (fun p hp=>imP hp)) tt fun x1 N1 t1=>
     .u 0x103c0003c0f03c0000006 (sGetInt (Value.type "list") none R.W (ws++[Value.ref cur]) epW (-1) (t1+1) (Value.ref cur)) [9] [] (ref_m1) tt fun x2 N2 t2=>
     .ui 0x1804008060180400000060481204812 (sGetHead n.at_ (ivs n.fs) n.ep N2 (-1) (t2+1) (ivs r0)) [2] [] (head_valid h h3 _) (inW D_ (fun p hp=>imN hp)) tt fun x3 N3 t3=>
     .u 0x4070000702007 (sConcat x3 (ivs r0) 0 N3 [iv 10 (t3+0)] 0) [1,2] [] (sConcat_valid (by simp [ivs];exact leT ‹_› rfl)) tt fun x4 N4 t4=>
     psAppend 0x104800 (Value.type "list") none cur xs epc (Value.ref x4) (by lia) [12] [1] fun x5 N5 t5=>
     psAppend 0x103c0003c0f03c0f01806 (Value.type "list") none R.W (ws++[Value.ref cur]) epW (Value.ref N5) (la (by lia)) [9] [1,2] fun x6 N6 t6=>
     .use 0x1 (sDu w R false nvs epa im us epd (i+1) (duF w R false false (V.up t0 i u n b)) (Value.ref n.at_) (ws++[Value.ref cur]) x6 N5 [] 0 ((fun _ _ _=>DuPost false R.sg (us.map Prod.fst) (i+1) im rest) x4 t3 N5)) [0,3,6,9,4] [4] [(1,x4,lst (ivs r0++[iv 10 (t3+0)]) 0)] (ih _ _ _ _ _ _ _ _ (la (by lia)) (by simp)) (inJ I_) fun x7 N7 t7 h7=>
     dn D_ 0x4 ((.ok .next)) [(0,R.F,duF w R false false x7.V),(3,R.z,enumV .none R.it (Int.ofNat x7.i) x7.lv),(6,R.it,iterE x7.i),(9,R.W,lst (((ws++[Value.ref cur])++[Value.ref N5])++wdVs x7.rest) x7.epW),(12,cur,lst (xs++[Value.ref x4]) x5)] [] [(1,N5,lst ([]++numVs x7.first) x7.epf)] fun s' O=>du_finB (m:=x4) (tm:=t3) (c:=N5) hpre hk h7 ?_ ?_ ?_ O
    ·exact fun q hq=>iL (iR hq)
    ·exact iL (iL (iR (.head _)))
    ·exact iR (.head _)
   kernel_rfl
  ·revert w b
   refine vFamT (fun w b=>tailZ (stDu w) (.ref R.z) (.ref T) (fnEnv w 308 R.F [])) _ bools [(R.pd,lst (ivs us) epd),n.led] (fun _ _=>ro) ?_ ?_
   ·refine fun b w s N0 t0 G_ D_ I_=>
     .ui 0x600002008000601806018060180e0200805408020000200002008020150200800008000080200805408020000200002008000150001505415 (sInI R.pd us epd i u true) [] [] (sInI_valid ((hany _).mpr (by simpa using hk))) (inW D_ (fun p hp=>imP hp)) tt fun x1 N1 t1=>
     .u 0x103c0003c0f03c0000006 (sGetInt (Value.type "list") none R.W (ws++[Value.ref cur]) epW (-1) (t1+1) (Value.ref cur)) [9] [] (ref_m1) tt fun x2 N2 t2=>
     .ui 0x1804008060180400000060481204812 (sGetHead n.at_ (ivs n.fs) n.ep N2 (-1) (t2+1) (ivs r0)) [2] [] (head_valid h h3 _) (inW D_ (fun p hp=>imN hp)) tt fun x3 N3 t3=>
     .u 0x4070000702007 (sConcat x3 (ivs r0) 0 N3 [iv 10 (t3+0)] 0) [1,2] [] (sConcat_valid (by simp [ivs];exact leT ‹_› rfl)) tt fun x4 N4 t4=>
     psAppend 0x104800 (Value.type "list") none cur xs epc (Value.ref x4) (by lia) [12] [1] fun x5 N5 t5=>
     .u 0x40f0000f03c0f0000001806 (sGetInt (Value.type "list") none R.W (ws++[Value.ref cur]) epW (-1) (t5+1) (Value.ref cur)) [9] [1] (ref_m1) tt fun x6 N6 t6=>
     psAppend 0x412000060481204812 (Value.type "list") none cur (xs++[Value.ref x4]) x5 (Value.ref N6) (la (by lia)) [12] [1,2] fun x7 N7 t7=>
     .use 0x1 (sDu w R true nvs epa im us epd (i+1) (duF w R true false (V.up t0 i u n b)) (Value.ref n.at_) ws epW cur (xs++[Value.ref x4]++[Value.ref N6]) x7 ((fun _ _ _=>DuPost true R.sg (us.map Prod.fst) (i+1) im rest) x4 t3 N6)) [0,3,6,9,12] [] [(1,x4,lst (ivs r0++[iv 10 (t3+0)]) 0),(4,N6,lst [iv R.sg R.tsg] 0)] (ih _ _ _ _ _ _ _ _ (by exact .step ‹_›) (by rw [List.length_append,List.length_append];simp;lia)) (inJ I_) fun x8 N8 t8 h8=>
     dn D_ 0x4 ((.ok .next)) [(0,R.F,duF w R true false x8.V),(3,R.z,enumV .none R.it (Int.ofNat x8.i) x8.lv),(6,R.it,iterE x8.i),(9,R.W,lst ((ws++[Value.ref cur])++wdVs x8.rest) x8.epW),(12,cur,lst (((xs++[Value.ref x4])++[Value.ref N6])++numVs x8.first) x8.epf)] [] [] fun s' O=>du_finQ (m:=x4) (tm:=t3) (c:=N6) hpre hk h8 ?_ ?_ ?_ O
    ·exact fun q hq=>iL (iR hq)
    ·exact iL (iL (iR (.head _)))
    ·exact iL (iL (iR (.tail _ (.head _))))
   kernel_rfl
 ·revert w b
  refine vFamT (fun w b=>tailZ (stDu w) (.ref R.z) (.ref T) (fnEnv w 308 R.F [])) _ bools [(R.pd,lst (ivs us) epd),n.led] (fun _ _=>ro) ?_ ?_
  ·refine fun b w s N0 t0 G_ D_ I_=>
    .ui 0x600002008000601806018060180e0200805408020000200002008020150200800008000080200805408020000200002008000150001505415 (sInI R.pd us epd i u false) [] [] (sInI_valid ((hany _).mpr (by simpa using hk))) (inW D_ (fun p hp=>imP hp)) tt fun x1 N1 t1=>
    .u 0x103c0003c0f03c0000006 (sGetInt (Value.type "list") none R.W (ws++[Value.ref cur]) epW (-1) (t1+1) (Value.ref cur)) [9] [] (ref_m1) tt fun x2 N2 t2=>
    psAppend 0x412000060481204812 (Value.type "list") none cur xs epc (Value.ref n.at_) (by lia) [12] [] fun x3 N3 t3=>
    .use 0x1 (sDu w R qd nvs epa im us epd (i+1) (duF w R qd false (V.up t0 i u n b)) (Value.ref n.at_) ws epW cur (xs++[Value.ref n.at_]) x3 (DuPost qd R.sg (us.map Prod.fst) (i+1) im rest)) [0,3,6,9,12] [] [] (ih _ _ _ _ _ _ _ _ (by exact .step ‹_›) (la (by lia))) (inJ I_) fun x4 N4 t4 h4=>
    dn D_ 0x4 ((.ok .next)) [(0,R.F,duF w R qd false x4.V),(3,R.z,enumV .none R.it (Int.ofNat x4.i) x4.lv),(6,R.it,iterE x4.i),(9,R.W,lst ((ws++[Value.ref cur])++wdVs x4.rest) x4.epW),(12,cur,lst ((xs++[Value.ref n.at_])++numVs x4.first) x4.epf)] [] [] fun s' O=>du_finN hm hk h4 ?_ O
   exact fun q hq=>iL (iR hq)
  kernel_rfl
theorem sDu_valid (epa:Nat) (ns:List Num) (us:List (Nat×Nat)) (epd:Nat) (hn:ns.length<=1000) (hg:∀n∈ns,NG3 n.val):∀(r:List Num) (w:World) (i:Nat) (V:DuV) (lv:Value) (ws:LV) (epW cur:Nat) (xs:LV) (epc:Nat),ns.drop i=r->ws.length<=i->xs.length<=2*i->
  Vd w (sDu w R qd (numVs ns) epa (numLed ns) us epd i (duF w R qd false V) lv ws epW cur xs epc (DuPost qd R.sg (us.map (·.1)) i (numLed ns) (r.map Num.val))):=by
 intro r
 induction r with
 | nil=>
  intro w i V lv ws epW cur xs epc hr hws hxs
  have hi:(numVs ns).length<=i:=by
   have:ns.length<=i:=List.drop_eq_nil_iff.mp hr
   simpa [numVs] using this
  revert w
  refine vRow ?_ ?_
  ·exact fun w s N0 t0 G_ D_ I_=>
    .ui 0x40c0000c024000240002400 (sItEI R.it R.a i (Value.type "list") none (numVs ns) epa) [6] [] (sItEI_valid hi) (inS (I_ _ (.head _))) tt fun x1 N1 t1=>
    dn D_ 0x400007 ((.ok .next)) [(0,R.F,duF w R qd false V),(3,R.z,enumV .none R.it (Int.ofNat i) lv),(6,R.it,iterE i),(9,R.W,lst (ws++[Value.ref cur]) epW),(12,cur,lst xs epc)] [] [] fun s' O=>⟨(⟨[],epc,[],[],epW,V,i,lv⟩:DuX),⟨rfl,rfl,fun m h=>(by rcases h with h | ⟨_,h,_⟩ <;>cases h)⟩,rfl,rfl,by
    have:=O.sub (li':=[]) (fun _ h=>nomatch h)
    rw [←List.append_nil xs,←List.append_nil (ws++[Value.ref cur])] at this
    exact this⟩
  kernel_rfl
 | cons n r ih=>
  intro w i V lv ws epW cur xs epc hr hws hxs
  obtain ⟨hgt,hdr⟩:=drop_get hr
  have hi:i<ns.length:=(List.getElem?_eq_some_iff.mp hgt).1
  have hmem:n∈ns:=List.mem_of_getElem? hgt
  obtain ⟨g1,g2,g3⟩:=num_good (hg n hmem)
  exact sDu_turn R qd (numVs ns) epa (numLed ns) us epd i lv ws epW cur xs epc _ n (fun w=>duF w R qd false V) w (numVs_at hgt) fun T u=>
   sDu_tail R qd (numVs ns) epa (numLed ns) us epd i n (r.map Num.val) (List.mem_map_of_mem hmem) g1 (by exact leT ‹_› rfl) (fun w V lv ws epW cur xs epc h1 h2=>ih w (i+1) V lv ws epW cur xs epc hdr h1 h2) w false V lv ws epW cur xs epc (by lia) hws hxs T u
theorem sDu1_valid (epa:Nat) (n:Num) (r:List Num) (us:List (Nat×Nat)) (epd:Nat) (hn:(n::r).length<=1000) (hg:∀m∈n::r,NG3 m.val) {w:World} {V:DuV} {lv:Value} {epW cur epc:Nat}:
  Vd w (sDu w R qd (numVs (n::r)) epa (numLed (n::r)) us epd 0 (duF w R qd true V) lv [] epW cur [] epc (DuPost qd R.sg (us.map (·.1)) 0 (numLed (n::r)) ((n::r).map Num.val))):=by
 obtain ⟨g1,g2,g3⟩:=num_good (hg n (.head _))
 exact sDu_turn R qd (numVs (n::r)) epa (numLed (n::r)) us epd 0 lv [] epW cur [] epc _ n (fun w=>duF w R qd true V) w rfl fun T u=>
  sDu_tail R qd (numVs (n::r)) epa (numLed (n::r)) us epd 0 n (r.map Num.val) (.head _) g1 (by exact leT ‹_› rfl) (fun w V lv ws epW cur xs epc h1 h2=>sDu_valid R qd epa (n::r) us epd hn hg r w 1 V lv ws epW cur xs epc rfl h1 h2) w true V lv [] epW cur [] epc (by decide) (by simp) (by simp) T u
end
structure DeX where
 W:Nat
 epW:Nat
 words:List Wd
 nums:List Num
def wdLed (l:List Wd):Led:=l.map Wd.led
def sDue (a:Nat) (nvs:LV) (epa:Nat) (im:Led) (sg tsg pd:Nat) (us:List (Nat×Nat)) (epd:Nat) (qd:Bool) (post:DeX->Prop):Summ where
 code:=.call (.ref 308) ⟨[.ref a,iv sg tsg,.ref pd,.bool qd],[]⟩
 imm:=(a,lst nvs epa)::(pd,lst (ivs us) epd)::im
 Res:=DeX
 post:=post
 res:=fun x=>.ok (.ret (.ref x.W))
 new:=fun x=>[(x.W,lst (wdVs x.words) x.epW)]
 giveImm:=fun x=>wdLed x.words++numLed x.nums
 giv:=true
 d:=50
 u:=100
structure DePost (qd:Bool) (sg:Nat) (P:LN) (im:Led) (vals:List LN) (x:DeX):Prop where
 words:x.words.map (fun y=>y.ns.map Num.val)=(dueN qd sg P 0 vals).1::(dueN qd sg P 0 vals).2
 inn:∀y∈x.words,∀m∈y.ns,m.led∈im\/m∈x.nums
set_option maxHeartbeats 1000000 in
theorem sDue_valid (w:World) (a epa:Nat) (sg tsg pd:Nat) (us:List (Nat×Nat)) (epd:Nat) (qd:Bool) (n:Num) (r:List Num) (hn:(n::r).length<=400) (hg:∀m∈n::r,NG3 m.val):
  Vd w (sDue a (numVs (n::r)) epa (numLed (n::r)) sg tsg pd us epd qd (DePost qd sg (us.map Prod.fst) (numLed (n::r)) ((n::r).map Num.val))):=by
 revert w
 refine vRowR [(a,lst (numVs (n::r)) epa)] (fun w=>(fun p hp=>List.mem_singleton.mp hp▸.head _)) ?_ ?_
 ·refine fun w s N0 t0 G_ D_ I_=>
   .ui 0x40000000020000000802000000080200802008020080200000002 (sEnumI a (numVs (n::r)) epa) [] [2,5,8] (sEnumI_valid) (inS (I_ _ (.head _))) tt fun x1 N1 t1=>
   .use 0x1040000400004010040000400004010 (sDu w (DuR.mk N0 a x1.fst x1.snd pd (N0+2) sg tsg fun x=>match x with | 0=>t0 | 1=>t0+1 | 2=>t0+2 | 3=>t0+3 | x=>t0+4) qd (numVs (n::r)) epa (numLed (n::r)) us epd 0 (duF w (DuR.mk N0 a x1.fst x1.snd pd (N0+2) sg tsg fun x=>match x with | 0=>t0 | 1=>t0+1 | 2=>t0+2 | 3=>t0+3 | x=>t0+4) qd true (DuV.mk 0 Value.none 0 Value.none)) Value.none [] 0 (N0+1) [] 0 ((fun _=>DuPost qd sg (us.map Prod.fst) 0 (numLed (n::r)) ((n::r).map Num.val)) N0)) [1,10,13,7,4] [1,4,7] [] (sDu1_valid (DuR.mk N0 a x1.1 x1.2 pd (N0+2) sg tsg _) qd epa n r us epd (by exact leT ‹_› rfl) hg) (inJ I_) fun x2 N2 t2 h2=>
   dn D_ 0x1007 ((.ok (.ret (.ref (N0+2))))) [] [(7,N0+2,lst (([]++[Value.ref (N0+1)])++wdVs x2.rest) x2.epW)] [(4,N0+1,lst ([]++numVs x2.first) x2.epf)] fun s' O=>?_
  have h2:DuPost qd sg (us.map Prod.fst) 0 (numLed (n::r)) ((n::r).map Num.val) x2:=h2
  refine ⟨(⟨N0+2,x2.epW,⟨N0+1,x2.epf,x2.first⟩::x2.rest,x2.nums⟩:DeX),⟨?_,?_⟩,rfl,rfl,O.sub fun q hq=>?_⟩
  ·show x2.first.map Num.val::x2.rest.map _=_
   rw [h2.first,h2.more]
  ·intro y hy m hm
   rcases iC hy with rfl | hy
   ·exact h2.inn m (.inl hm)
   ·exact h2.inn m (.inr ⟨y,hy,hm⟩)
  ·have hq:q∈(N0+1,lst (numVs x2.first) x2.epf)::(x2.rest.map Wd.led++numLed x2.nums):=hq
   rcases iC hq with rfl | hq
   ·exact iR (.head _)
   ·exact iL (iR hq)
 kernel_rfl
theorem items_of:∀(ps:List (Bool×Nat)) (x:List (Nat×Nat)) (r:LN),x.map (·.1)=itx ps++r->∃(is:List Item) (rest:List (Nat×Nat)),x=itemChs is rest/\is.map (fun i=>(i.esc,i.c))=ps/\rest.map (·.1)=r
 | [],x,r,h=>⟨[],x,rfl,rfl,h⟩
 | (true,c)::ps,x,r,h=>by
  have e:itx ((true,c)::ps)++r=92::c::(itx ps++r):=by simp [itx]
  rw [e] at h
  obtain ⟨⟨a,ta⟩,x1,rfl,ha,h1⟩:=List.map_eq_cons_iff.mp h
  obtain ⟨⟨b,tb⟩,x2,rfl,hb,h2⟩:=List.map_eq_cons_iff.mp h1
  obtain ⟨is,rest,h3,h4,h5⟩:=items_of ps x2 r h2
  have ha:a=92:=ha
  have hb:b=c:=hb
  subst ha hb h3
  exact ⟨⟨true,b,tb,ta⟩::is,rest,rfl,by simp [h4],h5⟩
 | (false,c)::ps,x,r,h=>by
  have e:itx ((false,c)::ps)++r=c::(itx ps++r):=by simp [itx]
  rw [e] at h
  obtain ⟨⟨b,tb⟩,x2,rfl,hb,h2⟩:=List.map_eq_cons_iff.mp h
  obtain ⟨is,rest,h3,h4,h5⟩:=items_of ps x2 r h2
  have hb:b=c:=hb
  subst hb h3
  exact ⟨⟨false,b,tb,0⟩::is,rest,rfl,by simp [h4],h5⟩
theorem tokN_eq:∀(is:List Item) (t:LN),tokN t is=t++is.map (·.c)
 | [],t=>by simp [tokN]
 | i::is,t=>by rw [tokN,tokN_eq is];simp
theorem cntN_eq:∀(is:List Item) (n:Int),cntN n is=n+Int.ofNat (is.countP fun i=>i.c==10)
 | [],n=>by simp [cntN]
 | i::is,n=>by
  rw [cntN,cntN_eq is,List.countP_cons]
  by_cases h:i.c=10
  ·rw [if_pos h,if_pos (by simpa using h)];simp;lia
  ·rw [if_neg h,if_neg (by simpa using h)];simp
theorem epN_eq:∀(is:List Item) (n:Nat),epN n is=n+(itemChs is []).length
 | [],n=>rfl
 | i::is,n=>by
  rw [epN,epN_eq is]
  obtain ⟨e,c,tc,tb⟩:=i
  cases e
  ·show n+1+_=n+((itemChs is []).length+1);lia
  ·show n+1+1+_=n+((itemChs is []).length+1+1);lia
theorem itemChs_app:∀(is:List Item) (r:List (Nat×Nat)),itemChs is r=itemChs is []++r
 | [],r=>rfl
 | i::is,r=>by
  unfold itemChs
  rw [itemChs_app is r]
  obtain ⟨e,c,tc,tb⟩:=i
  cases e <;>rfl
theorem itemChs_len:∀(is:List Item) (ps:List (Bool×Nat)),is.map (fun i=>(i.esc,i.c))=ps->(itemChs is []).length=(itx ps).length
 | [],ps,h=>by subst h;rfl
 | i::is,ps,h=>by
  subst h
  have IH:=itemChs_len is _ rfl
  obtain ⟨e,c,tc,tb⟩:=i
  cases e
  ·show (itemChs is []).length+1=_
   rw [IH];simp [itx]
  ·show (itemChs is []).length+1+1=_
   rw [IH];simp [itx]
section
variable {is:List Item} {ps:List (Bool×Nat)}
theorem items_c (h:is.map (fun i=>(i.esc,i.c))=ps):is.map (·.c)=ps.map (·.2):=by
 subst h;rw [List.map_map];rfl
theorem items_ten (h:is.map (fun i=>(i.esc,i.c))=ps):(is.countP fun i=>i.c==10)=ten ps:=by
 subst h;unfold ten;rw [List.countP_map];rfl
end
theorem valid_tok {w:World} {R:LexR} {n:Int} {tn:Nat} {x:List (Nat×Nat)} {a b:Nat} {W W':LN} {y y':List (Nat×Nat)} {n2 n2':Int} {b':Nat} (hW:W=W') (hn:n2=n2') (hy:y=y') (hb:b=b') (h:Vd w (sTokG w R n tn x a W n2 y b)):Vd w (sTokG w R n tn x a W' n2' y' b'):=by
 subst hW hn hy hb;exact h
theorem itx_len (ps:List (Bool×Nat)):ps.length<=(itx ps).length:=by
 induction ps with
 | nil=>exact Nat.le_refl _
 | cons p ps ih=>
  unfold itx at ih ⊢
  rw [List.flatMap_cons,List.length_append,List.length_cons]
  split <;>simp only [List.length_cons,List.length_nil] <;>lia
theorem reads_quoted (ps:List (Bool×Nat)) (hq:∀p∈ps,p.1=false->p.2≠34/\p.2≠92) (hl:(itx ps).length<=20000):
  ReadsSo (34::(itx ps++[34])) (fun i=>if i=0 then ps.map (·.2) else []) (fun i=>if i=0 then 1 else 1+Int.ofNat (ten ps)) (fun i=>if i=0 then 0 else (itx ps).length+2):=by
 refine ⟨rfl,rfl,fun x hx i hi w R tn a=>?_⟩
 obtain ⟨⟨c,t33⟩,x1,rfl,hc,h1⟩:=List.map_eq_cons_iff.mp hx
 have hc:c=34:=hc
 subst hc
 obtain ⟨is,rest,rfl,h2,h3⟩:=items_of ps x1 [34] h1
 obtain ⟨⟨d,t34⟩,r2,rfl,hd,h4⟩:=List.map_eq_cons_iff.mp h3
 have hd:d=34:=hd
 subst hd
 have hr2:r2=[]:=List.map_eq_nil_iff.mp h4
 subst hr2
 have hlen:=itemChs_len is ps h2
 have hall:((34,t33)::itemChs is [(34,t34)]).drop ((itx ps).length+2)=[]:=by
  rw [List.drop_eq_nil_iff,List.length_cons,itemChs_app,List.length_append,hlen];simp
 by_cases h0:i=0
 ·subst h0
  refine valid_tok ?_ ?_ ?_ ?_ (sTokQ_valid w R 1 tn a t33 is t34 [] (fun it hit he=>?_) ?_ ?_)
  ·rw [tokN_eq,List.nil_append,items_c h2];rfl
  ·rw [cntN_eq,items_ten h2];rfl
  ·exact hall.symm
  ·show epN (a+1) is+1=a+((itx ps).length+2)
   rw [epN_eq,hlen];lia
  ·exact hq (it.esc,it.c) (by rw [←h2];exact List.mem_map_of_mem hit) he
  ·rw [itemChs_app,List.length_append,hlen];simp;exact leT ‹_› rfl
  ·have h5:=congrArg List.length h2
   rw [List.length_map] at h5
   have:=itx_len ps
   lia
 ·have z:=sTokZ_valid w R (1+Int.ofNat (ten ps)) tn (a+((itx ps).length+2))
  simp only [if_neg h0,if_neg (show ¬(i+1=0) by lia)]
  rw [hall]
  exact z
noncomputable def chE (sg:Nat):List LN->Nat->Nat
 | _,0=>0
 | [],_=>0
 | [w],_+1=>2*w.length
 | w::w'::r,i+1=>2*w.length+1+chE sg (w'::r) i
noncomputable def chT (sg:Nat):List LN->LN
 | []=>[]
 | [w]=>itb w
 | w::w'::r=>itb w++sg::chT sg (w'::r)
theorem chainB_chT (sg:Nat):∀(ws:List LN) (w:LN),chainB sg (w,ws)=chT sg (w::ws)
 | [],w=>by simp [chainB,chT]
 | w'::ws,w=>by
  have:=chainB_chT sg ws w'
  unfold chT
  rw [←this]
  simp [chainB]
theorem itb_itx (l:LN):itb l=itx (l.map fun c=>(true,c)):=by
 unfold itb itx
 rw [List.flatMap_map];rfl
theorem itb_len (l:LN):(itb l).length=2*l.length:=by
 induction l with
 | nil=>rfl
 | cons c l ih=>unfold itb at ih ⊢;rw [List.flatMap_cons,List.length_append,ih];simp;lia
theorem ten_bare (l:LN):ten (l.map fun c=>(true,c))=ten1 l:=by
 unfold ten ten1
 rw [List.countP_map];rfl
noncomputable def TokP (sg:Nat) (ws:List LN):Prop:=ws≠[]->(∀w∈ws,w≠[])->(chT sg ws).length<=20000->∀(x:List (Nat×Nat)),x.map (·.1)=chT sg ws->∀(i:Nat) (w:World) (R:LexR) (n:Int) (tn a:Nat),
  Vd w (sTokG w R n tn (x.drop (chE sg ws i)) (a+chE sg ws i) (ws.getD i []) (n+Int.ofNat (ten1 (ws.getD i []))) (x.drop (chE sg ws (i+1))) (a+chE sg ws (i+1)))
theorem tok_bare (sg:Nat) (hsg:sg=32\/sg=9):∀(ws:List LN),TokP sg ws
 | []=>fun h _ _ _ _ _ _ _ _ _ _=>absurd rfl h
 | [v]=>fun _ hne hl x hx i w R n tn a=>by
  have hx:x.map (·.1)=itx (v.map fun c=>(true,c))++[]:=by rw [List.append_nil,←itb_itx];exact hx
  have hl:(itb v).length<=20000:=hl
  rw [itb_len] at hl
  obtain ⟨is,rest,rfl,h2,h3⟩:=items_of _ x [] hx
  have hrest:rest=[]:=List.map_eq_nil_iff.mp h3
  subst hrest
  have hlen:=itemChs_len is _ h2
  rw [←itb_itx,itb_len] at hlen
  have hall:(itemChs is []).drop (2*v.length)=[]:=by
   rw [List.drop_eq_nil_iff,hlen];exact Nat.le_refl _
  cases i with
  | zero=>
   cases is with
   | nil=>
    have:v=[]:=List.map_eq_nil_iff.mp h2.symm
    exact absurd this (hne v (.head _))
   | cons it is=>
    obtain ⟨e,c,tc,tb⟩:=it
    have hes:∀it∈(⟨e,c,tc,tb⟩:Item)::is,it.esc=true:=fun it hit=>by
     have:(it.esc,it.c)∈v.map fun c=>(true,c):=by rw [←h2];exact List.mem_map_of_mem (f:=fun i:Item=>(i.esc,i.c)) hit
     obtain ⟨c',_,e'⟩:=List.mem_map.mp this
     exact (congrArg Prod.fst e').symm
    have he:e=true:=hes _ (.head _)
    subst he
    have hcs:=items_c h2
    rw [List.map_map] at hcs
    have hl2:2*(is.length+1)<=20000:=by
     have:=congrArg List.length hcs
     simp at this;lia
    have hl3:(itemChs is []).length<=20000:=by
     have h9:(itemChs ((⟨true,c,tc,tb⟩:Item)::is) []).length=(itemChs is []).length+1+1:=rfl
     lia
    refine valid_tok ?_ ?_ ?_ ?_ (sTokBZ_valid w R n tn a c tc tb is (fun it hit=>hes it (.tail _ hit)) (by exact leT ‹_› rfl) (by lia))
    ·rw [tokN_eq,List.nil_append,hcs];show v.map _root_.id=v;simp
    ·rw [cntN_eq,items_ten h2,ten_bare];rfl
    ·exact hall.symm
    ·rw [epN_eq,hlen];rfl
  | succ i=>
   have z:=sTokZ_valid w R n tn (a+2*v.length)
   show Vd w (sTokG w R n tn ((itemChs is []).drop (2*v.length)) (a+2*v.length) [] (n+Int.ofNat 0) ((itemChs is []).drop (2*v.length)) (a+2*v.length))
   rw [hall]
   have:n+Int.ofNat 0=n:=by simp
   rw [this]
   exact z
 | v::v'::r=>fun _ hne hl x hx i w R n tn a=>by
  have hx:x.map (·.1)=itx (v.map fun c=>(true,c))++sg::chT sg (v'::r):=by rw [←itb_itx];exact hx
  have hl:(itb v++sg::chT sg (v'::r)).length<=20000:=hl
  rw [List.length_append,List.length_cons,itb_len] at hl
  obtain ⟨is,rest,rfl,h2,h3⟩:=items_of _ x _ hx
  obtain ⟨⟨d,td⟩,r2,rfl,hd,h4⟩:=List.map_eq_cons_iff.mp h3
  have hd:d=sg:=hd
  subst hd
  have hlen:=itemChs_len is _ h2
  rw [←itb_itx,itb_len] at hlen
  have hr2:r2.length<=20000:=by
   have:=congrArg List.length h4
   rw [List.length_map] at this;lia
  have hall:∀j,(itemChs is ((d,td)::r2)).drop (2*v.length+1+j)=r2.drop j:=fun j=>by
   rw [itemChs_app,List.drop_append,hlen,List.drop_eq_nil_of_le (by rw [hlen];lia),show 2*v.length+1+j-2*v.length=j+1 by lia];rfl
  cases i with
  | zero=>
   cases is with
   | nil=>
    have:v=[]:=List.map_eq_nil_iff.mp h2.symm
    exact absurd this (hne v (.head _))
   | cons it is=>
    obtain ⟨e,c,tc,tb⟩:=it
    have hes:∀it∈(⟨e,c,tc,tb⟩:Item)::is,it.esc=true:=fun it hit=>by
     have:(it.esc,it.c)∈v.map fun c=>(true,c):=by rw [←h2];exact List.mem_map_of_mem (f:=fun i:Item=>(i.esc,i.c)) hit
     obtain ⟨c',_,e'⟩:=List.mem_map.mp this
     exact (congrArg Prod.fst e').symm
    have he:e=true:=hes _ (.head _)
    subst he
    have hcs:=items_c h2
    rw [List.map_map] at hcs
    have hl2:2*(is.length+1)<=20000:=by
     have:=congrArg List.length hcs
     simp at this;lia
    have hl3:(itemChs is ((d,td)::r2)).length<=40000:=by
     have h9:(itemChs ((⟨true,c,tc,tb⟩:Item)::is) []).length=(itemChs is []).length+1+1:=rfl
     rw [itemChs_app,List.length_append,List.length_cons];lia
    have hd10:¬d=10:=by rcases hsg with rfl | rfl <;>decide
    refine valid_tok ?_ ?_ ?_ ?_ (sTokB_valid w R n tn a c tc tb is d td r2 (by rcases hsg with rfl | rfl <;>simp) (fun it hit=>hes it (.tail _ hit)) hl3 (by lia))
    ·rw [tokN_eq,List.nil_append,hcs];show v.map _root_.id=v;simp
    ·rw [if_neg hd10,cntN_eq,items_ten h2,ten_bare];rfl
    ·exact (hall 0).symm
    ·rw [epN_eq,hlen];rfl
  | succ i=>
   have IH:=tok_bare d hsg (v'::r) (by simp) (fun u hu=>hne u (.tail _ hu)) (by lia) r2 h4 i w R n tn (a+(2*v.length+1))
   have e:∀j,a+chE d (v::v'::r) (j+1)=a+(2*v.length+1)+chE d (v'::r) j:=fun j=>by
    show a+(2*v.length+1+chE d (v'::r) j)=_;lia
   have e2:∀j,(itemChs is ((d,td)::r2)).drop (chE d (v::v'::r) (j+1))=r2.drop (chE d (v'::r) j):=fun j=>hall _
   rw [e,e,e2,e2]
   exact IH
noncomputable def cumT (ws:List LN):Nat->Nat
 | 0=>0
 | i+1=>cumT ws i+ten1 (ws.getD i [])
theorem reads_bare (sg:Nat) (hsg:sg=32\/sg=9) (ws:List LN) (h0:ws≠[]) (hne:∀w∈ws,w≠[]) (hl:(chT sg ws).length<=20000):
  ReadsSo (chT sg ws) (fun i=>ws.getD i []) (fun i=>1+Int.ofNat (cumT ws i)) (chE sg ws):=by
 refine ⟨rfl,by cases ws <;>rfl,fun x hx i hi w R tn a=>?_⟩
 have z:=tok_bare sg hsg ws h0 hne hl x hx i w R (1+Int.ofNat (cumT ws i)) tn a
 have e:(1:Int)+Int.ofNat (cumT ws (i+1))=1+Int.ofNat (cumT ws i)+Int.ofNat (ten1 (ws.getD i [])):=by
  show (1:Int)+Int.ofNat (cumT ws i+ten1 (ws.getD i []))=_
  simp;lia
 rw [e]
 exact z
theorem cumT_all:∀(ws:List LN) (i:Nat),ws.length<=i->cumT ws i=(ws.map ten1).sum:=by
 have step:∀(w:LN) (ws:List LN) (i:Nat),cumT (w::ws) (i+1)=ten1 w+cumT ws i:=by
  intro w ws i
  induction i with
  | zero=>simp [cumT]
  | succ i ih=>
   have h1:cumT (w::ws) (i+1+1)=cumT (w::ws) (i+1)+ten1 ((w::ws).getD (i+1) []):=rfl
   have h2:cumT ws (i+1)=cumT ws i+ten1 (ws.getD i []):=rfl
   rw [h1,ih,h2,List.getD_cons_succ];lia
 intro ws
 induction ws with
 | nil=>
  intro i _
  induction i with
  | zero=>rfl
  | succ i ih=>
   have:cumT [] (i+1)=cumT [] i+ten1 (([]:List LN).getD i []):=rfl
   rw [this,ih (by simp)];rfl
 | cons w ws ih=>
  intro i hi
  cases i with
  | zero=>simp at hi
  | succ i=>rw [step,ih i (by simpa using hi)];rfl
section
variable (q:Bool) (sg wd:Nat) (ns:List LN)
def pageN:LN:=quoT q++pgN q sg (partedOf q sg wd ns) 0 ns
def dueOf:List (List LN):=(dueN q sg (partedOf q sg wd ns) 0 ns).1::(dueN q sg (partedOf q sg wd ns) 0 ns).2
end
theorem txT_last (q:Bool) (cs:LN):(txT q (drawnAll cs)).getLast?=some (if q=true then 34 else 63):=by
 unfold txT
 cases q with
 | true=>
  rw [List.getLast?_append];rfl
 | false=>
  have e:signs (drawnAll cs)=signs (cs.map drawn1)++[63]:=by
   unfold signs drawnAll
   rw [List.flatMap_append];rfl
  rw [e,List.flatMap_append]
  show (([]++(_++[92,63]))++[]).getLast?=_
  rw [List.append_nil,List.nil_append,List.getLast?_append];rfl
theorem cnt_parted (q:Bool) (sg wd:Nat) (ns:List LN):cntP (partedOf q sg wd ns) 0 ns=(partedOf q sg wd ns).length/\PSg sg (partedOf q sg wd ns) 0 ns:=pt_facts q sg wd ns 63 0 _ _
theorem page_valid (w:World) (q:Bool) (cs:LN) (hcs:cs.length=6) (ta wd tw sg ts:Nat) (hsg:sg=32\/sg=9) (tb1 tb2:ON):
  Vd w (sPage (txT q (drawnAll cs)) ta (Int.ofNat wd) tw sg ts tb1 tb2 (pageN q sg wd (drawnAll cs))):=by
 have hg:=drawnAll_ok cs
 obtain ⟨c,p,gs,h1,h2,h3,h4⟩:=page_numbers q sg wd hsg (drawnAll cs) (by simp [drawnAll]) (fun n hn=>(hg n hn).1) (drawnAll_end cs 63)
 have hl:=txT_len q hg
 have h7:(drawnAll cs).length=7:=by simp [drawnAll,hcs]
 have z:=sPage_valid w (txT q (drawnAll cs)) ta (Int.ofNat wd) tw sg ts tb1 tb2 c p gs hsg h1 (by lia) h2 h3 (txT_last q cs) (by cases q <;>decide +kernel)
 rw [h4] at z
 exact z
theorem page_reads (q:Bool) (sg wd:Nat) (hsg:sg=32\/sg=9) (cs:LN) (hcs:cs.length=6):
  (pageN q sg wd (drawnAll cs)).length<=20000/\(dueOf q sg wd (drawnAll cs)).length<=7/\∃(nn:Nat->Int) (E:Nat->Nat),ReadsSo (pageN q sg wd (drawnAll cs)) (fun i=>((dueOf q sg wd (drawnAll cs)).map signs).getD i []) nn E/\nn 8=1+Int.ofNat ((partedOf q sg wd (drawnAll cs)).length+ends10 (drawnAll cs)):=by
 have hg:=drawnAll_ok cs
 have hg':=fun n hn=>(hg n hn).1
 have h7:(drawnAll cs).length=7:=by simp [drawnAll,hcs]
 obtain ⟨f1,f2⟩:=cnt_parted q sg wd (drawnAll cs)
 have hpl:(pageN q sg wd (drawnAll cs)).length<=10000:=by
  have a:=pgN_len q sg (partedOf q sg wd (drawnAll cs)) (drawnAll cs) 0
  have b:=txT_len q hg
  unfold txT at b
  unfold pageN
  have h3:(quoT q).length<=1:=by cases q <;>decide
  simp only [List.length_append] at b ⊢
  lia
 cases q with
 | true=>
  obtain ⟨i1,i2,i3,i4,i5⟩:=quoted_items sg (partedOf true sg wd (drawnAll cs)) hsg (drawnAll cs) 0 hg' f2
  have ep:pageN true sg wd (drawnAll cs)=34::(itx (itemsQ sg (partedOf true sg wd (drawnAll cs)) 0 (drawnAll cs))++[34]):=by
   unfold pageN
   rw [i1];rfl
  have ed:dueOf true sg wd (drawnAll cs)=[(dueN true sg (partedOf true sg wd (drawnAll cs)) 0 (drawnAll cs)).1]:=by
   unfold dueOf
   rw [i3]
  have z:=reads_quoted (itemsQ sg (partedOf true sg wd (drawnAll cs)) 0 (drawnAll cs)) i4 (by
   rw [ep] at hpl
   simp at hpl;exact leT ‹_› rfl)
  have e:(fun i=>((dueOf true sg wd (drawnAll cs)).map signs).getD i [])=(fun i=>if i=0 then (itemsQ sg (partedOf true sg wd (drawnAll cs)) 0 (drawnAll cs)).map (·.2) else []):=by
   rw [ed]
   funext i
   cases i with
   | zero=>exact i2.symm
   | succ i=>rfl
  rw [←e,←ep] at z
  refine ⟨by exact leT ‹_› rfl,by rw [ed];simp,⟨_,_,z,?_⟩⟩
  show (1:Int)+Int.ofNat (ten _)=_
  rw [i5,f1]
 | false=>
  obtain ⟨i1,i2,i3,i4,i5⟩:=bare_words sg (partedOf false sg wd (drawnAll cs)) hsg (drawnAll cs) 63 0 hg' f2 (drawnAll_end cs 63)
  have ep:pageN false sg wd (drawnAll cs)=chT sg ((dueOf false sg wd (drawnAll cs)).map signs):=by
   unfold pageN
   rw [i1,chainB_chT];rfl
  have hne:∀w∈(dueOf false sg wd (drawnAll cs)).map signs,w≠[]:=fun w hw=>by
   obtain ⟨d,hd,rfl⟩:=List.mem_map.mp hw
   rcases iC hd with rfl | hd
   ·exact i2 (by simp [drawnAll])
   ·exact i3 d hd
  have hparted:(partedOf false sg wd (drawnAll cs)).length<=6:=by
   have hlt:∀(P:LN) (ns:List LN) (k a:Nat),PSg sg P k ns->endNB a ns->ns≠[]->cntP P k ns+1<=ns.length:=by
    intro P ns
    induction ns with
    | nil=>intro k a _ _ h;exact absurd rfl h
    | cons n ns ih=>
     intro k a hp he _
     rw [cntP_cons,List.length_cons]
     cases ns with
     | nil=>
      have:k∉P:=fun hk=>by
       have hb:blank (lastN n)=false:=he
       rw [hp.1 hk] at hb
       rcases hsg with rfl | rfl <;>cases hb
      rw [if_neg this];exact Nat.le_refl _
     | cons m ns=>
      have:=ih (k+1) (lastN n) hp.2 he (by simp)
      split <;>lia
   have:=hlt _ _ 0 63 f2 (drawnAll_end cs 63) (by simp [drawnAll])
   rw [f1,h7] at this;lia
  have hdl:(dueOf false sg wd (drawnAll cs)).length<=7:=by
   unfold dueOf
   rw [List.length_cons,i4,f1];lia
  have z:=reads_bare sg hsg ((dueOf false sg wd (drawnAll cs)).map signs) (by simp [dueOf]) hne (by rw [←ep];exact leT ‹_› rfl)
  rw [←ep] at z
  refine ⟨by exact leT ‹_› rfl,hdl,⟨_,_,z,?_⟩⟩
  ·show (1:Int)+Int.ofNat (cumT _ 8)=_
   rw [cumT_all _ 8 (by rw [List.length_map];exact leT ‹_› rfl)]
   congr 2
   rw [←f1,←i5]
   unfold dueOf
   simp
def sSumL (I S c t:Nat) (cs:List (Nat×Nat)) (ep s:Nat):Summ where
 code:=.builtin "sum.loop" ⟨[.ref I,.ref S,.int 0 0,.int 0 0],[]⟩
 need:=[(I,iterO c 0),(S,lst [iv 0 t] 0)]
 imm:=[(c,lst (ivs cs) ep)]
 Res:=Nat
 res:=fun x=>.ok (.ret (iv s x))
 d:=10
 u:=20
 gone:=2
theorem preSum_nat (cs:List (Nat×Nat)):∀j,j<=cs.length->preSum (fun i=>Int.ofNat ((cs[i]?.map (·.1)).getD 0)) j=Int.ofNat ((cs.take j).map (·.1)).sum:=by
 intro j
 induction j with
 | zero=>intro _;rfl
 | succ j ih=>
  intro hj
  have hc:cs[j]? =some cs[j]:=List.getElem?_eq_getElem hj
  unfold preSum
  rw [ih (by lia),List.take_add_one,hc]
  simp only [Option.map_some,Option.getD_some,Option.toList_some,List.map_append,List.sum_append,List.map_cons,List.map_nil,List.sum_cons,List.sum_nil,Nat.add_zero]
  rfl
theorem sSumL_valid {w:World} {I S c t:Nat} {cs:List (Nat×Nat)} {ep s:Nat} (hs:(cs.map (·.1)).sum=s) (hb:s<2^60):Vd w (sSumL I S c t cs ep s):=fun A s0 room base need imm nodup msk gn=>by
 have hI:s0.heap.get? I=some (iterO c 0):=need _ (.head _)
 have hS:s0.heap.get? S=some (lst [iv 0 t] 0):=need _ (.tail _ (.head _))
 have hc:=imm _ (.head _)
 have hcI:c≠I:=fun e=>hc.2 (by rw [e];exact .head _)
 have hcS:c≠S:=fun e=>hc.2 (by rw [e];exact .tail _ (.head _))
 have nd:=List.nodup_cons.mp nodup
 have hSI:S≠I:=fun e=>nd.1 (by rw [e];exact .head _)
 have hlen:((ivs cs).toArray).size=cs.length:=by simp [ivs]
 refine codeAny_size ?_
 refine PySem.codeAny_sum_loop (Walks.list (A:=A.in1) room.handled I c hcI (ivs cs).toArray) (fun i=>Int.ofNat ((cs[i]?.map (·.1)).getD 0)) (fun i v hv=>?_) (fun j hj=>?_) S (by simp;exact ⟨hSI,Ne.symm hcS⟩) ((ivs cs).toArray.size) 0 s0 t 0 (by lia) (by lia) ⟨⟨_,hI,rfl,rfl⟩,⟨_,hc.1,rfl,_,rfl⟩⟩ hS fun h' tk t' hk hsz=>?_
 ·have:(ivs cs)[i]? =some v:=by simpa using hv
  unfold ivs at this
  rw [List.getElem?_map] at this
  cases h:cs[i]? with
  | none=>rw [h] at this;cases this
  | some p=>rw [h] at this;injection this with this;exact ⟨p.2,by rw [←this];rfl⟩
 ·rw [hlen] at hj
  have le:∀(l:List (Nat×Nat)) j,((l.take j).map (·.1)).sum<=(l.map (·.1)).sum:=by
   intro l
   induction l with
   | nil=>intro j;simp
   | cons p l ih=>intro j;cases j with
    | zero=>simp
    | succ j=>have:=ih j;simp only [List.take_succ_cons,List.map_cons,List.sum_cons];lia
  have mem:∀(l:List (Nat×Nat)) (p:Nat×Nat),p∈l->p.1<=(l.map (·.1)).sum:=by
   intro l
   induction l with
   | nil=>intro p h;cases h
   | cons q l ih=>
    intro p h
    rcases iC h with rfl | h
    ·simp
    ·have:=ih p h;simp only [List.map_cons,List.sum_cons];lia
  have h1:=preSum_nat cs (j+1) hj
  have h2:=le cs (j+1)
  have hcj:cs[j]? =some cs[j]:=List.getElem?_eq_getElem hj
  have h3:=mem cs _ (List.getElem_mem hj)
  rw [h1]
  simp only [hcj,Option.map_some,Option.getD_some]
  have e1:(Int.ofNat cs[j].1)=((cs[j].1:Nat):Int):=rfl
  have e2:(Int.ofNat ((cs.take (j+1)).map (·.1)).sum)=((((cs.take (j+1)).map (·.1)).sum:Nat):Int):=rfl
  rw [e1,e2]
  unfold InLong
  refine ⟨⟨by lia,by lia⟩,⟨by lia,by lia⟩⟩
 ·refine ⟨t',trivial,?_,rfl,?_⟩
  ·rw [hlen,preSum_nat cs _ (Nat.le_refl _),List.take_length,hs];rfl
  ·exact ⟨fun b o h hb=>hk b o (fun e=>hb (by simp at e;rw [e];exact .head _)) (fun e=>hb (by rw [e];exact .tail _ (.head _))) h,(fun _ h=>nomatch h),(fun _ h=>nomatch h),(fun _ h=>nomatch h),List.nodup_nil,hsz,rfl,id⟩
def sRepl (x:LN) (t a ta:Nat) (u:Nat) (b c:Nat) (y:LN):Summ:=sT "str.replace" [.str (st x) t,.str (st [a]) ta,.str (st [b,c]) u] (.str (st y))
def lwX (w:World) (i:Nat) (p:List (Nat×Nat)) (q:LN):Expr:=subs (rhs (atS (fnBody w 313) i p)) q
def lwC (w:World) (F i:Nat) (p:List (Nat×Nat)) (q:LN) (it acc d:Nat):Code:=compC (lwX w i p q) it acc d (fnEnv w 313 F [])
def oneD (w:World) (nm:Str):Bool->Nat->Value->Obj
 | true,_,_=>dictO w [] 0
 | false,q,v=>dictO w [(nm,q,v)] 1
noncomputable def pick (a b:Nat):Bool->Nat
 | true=>a
 | false=>b
structure OneX where
 ep:Nat
 q:Nat
 v:Value
 i:Nat
structure BaX where
 ss:List (LN×Nat)
 o:OneX
def sBa (w:World) (F it acc d:Nat) (wd:LN) (t i:Nat) (dd:Obj) (xs:LV) (ep:Nat) (post:BaX->Prop):Summ where
 code:=lwC w F 7 [] [1] it acc d
 need:=[(it,sitO wd t i),(acc,lst xs ep),(d,dd)]
 Res:=BaX
 post:=post
 res:=fun _=>.ok .next
 upd:=fun x=>[sitE x.o.i,lst (xs++lineVs x.ss) x.o.ep,oneD w "sign" false x.o.q x.o.v]
 d:=20
 u:=40
structure EnX where
 vs:LV
 o:OneX
def sEn (w:World) (F it acc d a:Nat) (nvs:LV) (epa:Nat) (im:Led) (i:Nat) (dd:Obj) (xs:LV) (ep:Nat) (post:EnX->Prop):Summ where
 code:=lwC w F 8 [] [1] it acc d
 need:=[(it,iterO a i),(acc,lst xs ep),(d,dd)]
 imm:=(a,lst nvs epa)::im
 Res:=EnX
 post:=post
 res:=fun _=>.ok .next
 upd:=fun x=>[iterE x.o.i,lst (xs++x.vs) x.o.ep,oneD w "number" false x.o.q x.o.v]
 d:=20
 u:=40
structure EmX where
 ws:List Wd
 o:OneX
def sEm (w:World) (F it acc d:Nat) (k m:Nat) (dd:Obj) (xs:LV) (ep:Nat) (post:EmX->Prop):Summ where
 code:=lwC w F 9 [(0,2)] [] it acc d
 need:=[(it,riO (Int.ofNat k) (Int.ofNat m) 1),(acc,lst xs ep),(d,dd)]
 Res:=EmX
 post:=post
 res:=fun _=>.ok .next
 upd:=fun x=>[riO (Int.ofNat x.o.i) (Int.ofNat 0) 1,lst (xs++wdVs x.ws) x.o.ep,oneD w "turn" false x.o.q x.o.v]
 giveImm:=fun x=>wdLed x.ws
 giv:=true
 d:=20
 u:=40
structure SwX where
 ss:List (LN×Nat)
 o:OneX
def sSw (w:World) (F it acc d a:Nat) (vs:LV) (epa:Nat) (im:Led) (i:Nat) (dd:Obj) (xs:LV) (ep:Nat) (post:SwX->Prop):Summ where
 code:=lwC w F 9 [(0,4)] [1] it acc d
 need:=[(it,iterO a i),(acc,lst xs ep),(d,dd)]
 imm:=(a,lst vs epa)::im
 Res:=SwX
 post:=post
 res:=fun _=>.ok .next
 upd:=fun x=>[iterE x.o.i,lst (xs++lineVs x.ss) x.o.ep,oneD w "word" false x.o.q x.o.v]
 d:=80
 u:=160
structure NwX where
 ns:List Num
 s0:Array (Option Value)
 o:OneX
def sNw (w:World) (F it acc d a:Nat) (vs:LV) (epa:Nat) (i:Nat) (fo:Obj) (dd:Obj) (xs:LV) (ep:Nat) (post:NwX->Prop):Summ where
 code:=lwC w F 9 [(0,5)] [0] it acc d
 need:=[(F,fo),(it,iterO a i),(acc,lst xs ep),(d,dd)]
 imm:=[(a,lst vs epa)]
 Res:=NwX
 post:=post
 res:=fun _=>.ok .next
 upd:=fun x=>[slt fo x.s0,iterE x.o.i,lst (xs++numVs x.ns) x.o.ep,oneD w "word" false x.o.q x.o.v]
 giveImm:=fun x=>numLed x.ns
 giv:=true
 d:=90
 u:=180
 fr:=some [fnEnv w 313 F []]
def wiX (w:World):Expr:=match lwX w 9 [(0,5)] [1] with
 | .ListComp e _ _ _=>e
 | e=>e
def wiC (w:World) (F d1:Nat) (it acc d:Nat):Code:=compC (wiX w) it acc d (compEnv (scopeOf (lwX w 9 [(0,5)] [1])) (fnEnv w 313 F []) d1 [])
structure WiX where
 vs:List (Nat×Nat)
 o:OneX
def sWi (w:World) (F d1 it acc d a:Nat) (nvs:LV) (epa:Nat) (im:Led) (i:Nat) (dd:Obj) (xs:LV) (ep:Nat) (post:WiX->Prop):Summ where
 code:=wiC w F d1 it acc d
 need:=[(it,iterO a i),(acc,lst xs ep),(d,dd)]
 imm:=(a,lst nvs epa)::im
 Res:=WiX
 post:=post
 res:=fun _=>.ok .next
 upd:=fun x=>[iterE x.o.i,lst (xs++ivs x.vs) x.o.ep,oneD w "number" false x.o.q x.o.v]
 d:=40
 u:=80
structure WoX where
 ns:List Num
 o:OneX
def sWo (w:World) (F it acc d a:Nat) (vs:LV) (epa:Nat) (im:Led) (i:Nat) (dd:Obj) (xs:LV) (ep:Nat) (post:WoX->Prop):Summ where
 code:=lwC w F 9 [(0,5)] [1] it acc d
 need:=[(it,iterO a i),(acc,lst xs ep),(d,dd)]
 imm:=(a,lst vs epa)::im
 Res:=WoX
 post:=post
 res:=fun _=>.ok .next
 upd:=fun x=>[iterE x.o.i,lst (xs++numVs x.ns) x.o.ep,oneD w "word" false x.o.q x.o.v]
 giveImm:=fun x=>numLed x.ns
 giv:=true
 d:=60
 u:=120
theorem len_snoc {xs:LV} {v:Value} {k:Nat} (h:xs.length<=k):(xs++[v]).length<=k+1:=by rw [List.length_append];simp;lia
noncomputable def baPost (r:LN):BaX->Prop:=fun x=>x.ss.map (·.1)=r.map fun c=>[92,c]
section
variable (F it acc d:Nat)
theorem sBa_step (wd:LN) (t i:Nat) (hi:i<=1000) (c:Nat) (r:LN) (hc:wd[i]? =some c)
  (ih:∀(w:World) (q:Nat) (v:Value) (xs:LV) (ep:Nat),xs.length<=i+1->Vd w (sBa w F it acc d wd t (i+1) (oneD w "sign" false q v) xs ep (baPost r)))
  (w:World) (b:Bool) (q:Nat) (v:Value) (xs:LV) (ep:Nat) (hx:xs.length<=i):Vd w (sBa w F it acc d wd t i (oneD w "sign" b q v) xs ep (baPost (c::r))):=
 by
 revert w b
 refine vFam _ bools [] (fun _=>roNil) ?_ ?_
 ·exact fun b w s N0 t0 G_ D_ I_=>
   .u 0x10180001800 (sSitN it wd t i c) [0] [] (sSitN_valid hc) tt fun x1 N1 t1=>
   .u 0x10000c0300c (sAdd [92] (t1+1) [c] x1) [] [] (sAdd_valid (by simp)) tt fun x2 N2 t2=>
   psAppend 0x102400 (Value.type "list") none acc xs ep (Value.str (st [92,c]) x2) (by exact leX ‹_› ‹_› rfl) [3] [] fun x3 N3 t3=>
   .up 0x1 (sBa w F it acc d wd t (i+1) (oneD w (Str.ofString "sign") false (pick t1 q b) (Value.str (st [c]) x1)) (xs++[Value.str (st [92,c]) x2]) x3 (baPost r)) [0,3,6] [] (ih _ _ _ _ _ (len_snoc hx)) tt fun x4 N4 t4 h4=>
   dn D_ 0x4 ((.ok .next)) [(0,it,sitE x4.o.i),(3,acc,lst ((xs++[Value.str (st [92,c]) x2])++lineVs x4.ss) x4.o.ep),(6,d,oneD w "sign" false x4.o.q x4.o.v)] [] [] fun s' O=>⟨⟨([92,c],x2)::x4.ss,x4.o⟩,by
   show [92,c]::x4.ss.map (·.1)=_;rw [show x4.ss.map (·.1)=_ from h4];rfl,rfl,rfl,by have:=O.noGi;rw [List.append_assoc] at this;exact this⟩
 kernel_rfl
theorem sBa_valid (wd:LN) (t:Nat) (hl:wd.length<=1000):∀(r:LN) (w:World) (i q:Nat) (v:Value) (xs:LV) (ep:Nat),wd.drop i=r->xs.length<=i->Vd w (sBa w F it acc d wd t i (oneD w "sign" false q v) xs ep (baPost r)):=by
 intro r
 induction r with
 | nil=>
  intro w i q v xs ep hr hx
  have hi:wd.length<=i:=List.drop_eq_nil_iff.mp hr
  revert w
  refine vRow ?_ ?_
  ·exact fun w s N0 t0 G_ D_ I_=>
    .u 0x10180001800 (sSitE it wd t i) [0] [] (sSitE_valid hi) tt fun x1 N1 t1=>
    dn D_ 0x1007 ((.ok .next)) [(0,it,sitE i),(3,acc,lst xs ep),(6,d,oneD w "sign" false q v)] [] [] fun s' O=>⟨⟨[],⟨ep,q,v,i⟩⟩,rfl,rfl,rfl,by have:=O.noGi;rw [←List.append_nil xs] at this;exact this⟩
  kernel_rfl
 | cons c r ih=>
  intro w i q v xs ep hr hx
  obtain ⟨hg,hdr⟩:=drop_get hr
  have hi:i<wd.length:=(List.getElem?_eq_some_iff.mp hg).1
  exact sBa_step F it acc d wd t i (by lia) c r hg (fun w q v xs ep h=>ih w (i+1) q v xs ep hdr h) w false q v xs ep hx
theorem sBa1_valid (c:Nat) (r:LN) (t:Nat) (hl:(c::r).length<=1000) (w:World) (ep:Nat):Vd w (sBa w F it acc d (c::r) t 0 (oneD w "sign" true 0 .none) [] ep (baPost (c::r))):=
 sBa_step F it acc d (c::r) t 0 (by decide) c r rfl (fun w q v xs ep h=>sBa_valid F it acc d (c::r) t hl r w 1 q v xs ep rfl h) w true 0 .none [] ep (Nat.le_refl _)
end
def enPost (r:List LN):EnX->Prop:=fun x=>x.vs.length=ends10 r
section
variable (F it acc d a epa:Nat)
theorem sEn_step (ns:List Num) (i:Nat) (hi:i<=1000) (n:Num) (r:List LN) (hn:ns[i]? =some n) (h0:n.fs≠[])
  (ih:∀(w:World) (q:Nat) (v:Value) (xs:LV) (ep:Nat),xs.length<=i+1->Vd w (sEn w F it acc d a (numVs ns) epa (numLed ns) (i+1) (oneD w "number" false q v) xs ep (enPost r)))
  (w:World) (b:Bool) (q:Nat) (v:Value) (xs:LV) (ep:Nat) (hx:xs.length<=i):Vd w (sEn w F it acc d a (numVs ns) epa (numLed ns) i (oneD w "number" b q v) xs ep (enPost (n.val::r))):=by
 obtain ⟨r0,e,ue,h,he,_⟩:=num_split h0
 have hm:n.led∈numLed ns:=List.mem_map_of_mem (List.mem_of_getElem? hn)
 have ro:∀p∈[n.led],p∈(a,lst (numVs ns) epa)::numLed ns:=fun p hp=>List.mem_singleton.mp hp▸.tail _ hm
 by_cases h10:e=10
 ·revert w b
  refine vFam _ bools [n.led] (fun _ _=>ro) ?_ ?_
  ·exact fun b w s N0 t0 G_ D_ I_=>
    psItNI 0x10180001800 it a i (Value.type "list") none (numVs ns) epa (Value.ref n.at_) (numVs_at hn) [0] [] (inS (I_ _ (.head _))) fun x1 N1 t1=>
    p_lastI 0x18000080200800000000c0300c e ue h (t1+2) (inW D_ (fun p hp=>.inl (ro p hp))) fun x2 N2 t2=>
    piEq 0x400 e ue 10 (t2+0) true (by simpa using h10) [] fun x3 N3 t3=>
    psAppend 0x4090000c (Value.type "list") none acc xs ep (Value.ref n.at_) (by exact leX ‹_› ‹_› rfl) [3] [] fun x4 N4 t4=>
    .uq 0x1 (sEn w F it acc d a (numVs ns) epa (numLed ns) (i+1) (oneD w (Str.ofString "number") false (pick t1 q b) (Value.ref n.at_)) (xs++[Value.ref n.at_]) x4 (enPost r)) [0,3,6] [] (ih _ _ _ _ _ (len_snoc hx)) (inJ I_) tt fun x5 N5 t5 h5=>
    dn D_ 0x4 ((.ok .next)) [(0,it,iterE x5.o.i),(3,acc,lst ((xs++[Value.ref n.at_])++x5.vs) x5.o.ep),(6,d,oneD w "number" false x5.o.q x5.o.v)] [] [] fun s' O=>⟨⟨.ref n.at_::x5.vs,x5.o⟩,by
    show x5.vs.length+1=_;rw [show x5.vs.length=_ from h5,ends10_cons,he,h10];rfl,rfl,rfl,by have:=O.noGi;rw [List.append_assoc] at this;exact this⟩
  kernel_rfl
 ·revert w b
  refine vFam _ bools [n.led] (fun _ _=>ro) ?_ ?_
  ·exact fun b w s N0 t0 G_ D_ I_=>
    psItNI 0x10180001800 it a i (Value.type "list") none (numVs ns) epa (Value.ref n.at_) (numVs_at hn) [0] [] (inS (I_ _ (.head _))) fun x1 N1 t1=>
    p_lastI 0x18000080200800000000c0300c e ue h (t1+2) (inW D_ (fun p hp=>.inl (ro p hp))) fun x2 N2 t2=>
    piEq 0x400 e ue 10 (t2+0) false (by simpa using h10) [] fun x3 N3 t3=>
    .uq 0x1 (sEn w F it acc d a (numVs ns) epa (numLed ns) (i+1) (oneD w (Str.ofString "number") false (pick t1 q b) (Value.ref n.at_)) xs ep (enPost r)) [0,3,6] [] (ih _ _ _ _ _ (by exact .step ‹_›)) (inJ I_) tt fun x4 N4 t4 h4=>
    dn D_ 0x4 ((.ok .next)) [(0,it,iterE x4.o.i),(3,acc,lst (xs++x4.vs) x4.o.ep),(6,d,oneD w "number" false x4.o.q x4.o.v)] [] [] fun s' O=>⟨x4,by
    show x4.vs.length=_;rw [show x4.vs.length=_ from h4,ends10_cons,he,if_neg (by simpa using h10)];rfl,rfl,rfl,O.noGi⟩
  kernel_rfl
theorem sEn_valid (ns:List Num) (hn:ns.length<=1000) (hg:∀n∈ns,n.fs≠[]):∀(r:List Num) (w:World) (i q:Nat) (v:Value) (xs:LV) (ep:Nat),ns.drop i=r->xs.length<=i->Vd w (sEn w F it acc d a (numVs ns) epa (numLed ns) i (oneD w "number" false q v) xs ep (enPost (r.map Num.val))):=by
 intro r
 induction r with
 | nil=>
  intro w i q v xs ep hr hx
  have hi:(numVs ns).length<=i:=by
   have:ns.length<=i:=List.drop_eq_nil_iff.mp hr
   simpa [numVs] using this
  revert w
  refine vRow ?_ ?_
  ·exact fun w s N0 t0 G_ D_ I_=>
    .ui 0x10180001800 (sItEI it a i (Value.type "list") none (numVs ns) epa) [0] [] (sItEI_valid hi) (inS (I_ _ (.head _))) tt fun x1 N1 t1=>
    dn D_ 0x1007 ((.ok .next)) [(0,it,iterE i),(3,acc,lst xs ep),(6,d,oneD w "number" false q v)] [] [] fun s' O=>⟨⟨[],⟨ep,q,v,i⟩⟩,rfl,rfl,rfl,by have:=O.noGi;rw [←List.append_nil xs] at this;exact this⟩
  kernel_rfl
 | cons n r ih=>
  intro w i q v xs ep hr hx
  obtain ⟨hgt,hdr⟩:=drop_get hr
  have hi:i<ns.length:=(List.getElem?_eq_some_iff.mp hgt).1
  exact sEn_step F it acc d a epa ns i (by lia) n (r.map Num.val) hgt (hg n (List.mem_of_getElem? hgt)) (fun w q v xs ep h=>ih w (i+1) q v xs ep hdr h) w false q v xs ep hx
theorem sEn1_valid (n:Num) (r:List Num) (hn:(n::r).length<=1000) (hg:∀m∈n::r,m.fs≠[]) (w:World) (ep:Nat):Vd w (sEn w F it acc d a (numVs (n::r)) epa (numLed (n::r)) 0 (oneD w "number" true 0 .none) [] ep (enPost ((n::r).map Num.val))):=
 sEn_step F it acc d a epa (n::r) 0 (by decide) n (r.map Num.val) rfl (hg n (.head _)) (fun w q v xs ep h=>sEn_valid F it acc d a epa (n::r) hn hg r w 1 q v xs ep rfl h) w true 0 .none [] ep (Nat.le_refl _)
end
noncomputable def emPost (m:Nat):EmX->Prop:=fun x=>x.ws.length=m/\∀y∈x.ws,y.ns=[]
theorem sEm_step (F it acc d k m:Nat) (ih:∀(w:World) (q:Nat) (v:Value) (xs:LV) (ep:Nat),xs.length<=k+1->Vd w (sEm w F it acc d (k+1) m (oneD w "turn" false q v) xs ep (emPost m))) (hk:k<=1000)
  (w:World) (b:Bool) (q:Nat) (v:Value) (xs:LV) (ep:Nat) (hx:xs.length<=k):Vd w (sEm w F it acc d k (m+1) (oneD w "turn" b q v) xs ep (emPost (m+1))):=
 by
 revert w b
 refine vFam _ bools [] (fun _=>roNil) ?_ ?_
 ·exact fun b w s N0 t0 G_ D_ I_=>
   prn 0x10180001800 it k m [0] fun x1 N1 t1=>
   psAppend 0x1024000300c (Value.type "list") none acc xs ep (Value.ref N1) (by exact leX ‹_› ‹_› rfl) [3] [2] fun x2 N2 t2=>
   .use 0x1 (sEm w F it acc d (k+1) m (oneD w (Str.ofString "turn") false (pick t1 q b) (iv k x1)) (xs++[Value.ref N1]) x2 ((fun _=>emPost m) N1)) [0,3,6] [] [(1,N1,lst [] 0)] (ih _ _ _ _ _ (len_snoc hx)) (noImm rfl) fun x3 N3 t3 h3=>
   dn D_ 0x4 ((.ok .next)) [(0,it,riO (Int.ofNat x3.o.i) (Int.ofNat 0) 1),(3,acc,lst ((xs++[Value.ref N1])++wdVs x3.ws) x3.o.ep),(6,d,oneD w "turn" false x3.o.q x3.o.v)] [] [] fun s' O=>by
   refine ⟨⟨⟨N1,0,[]⟩::x3.ws,x3.o⟩,⟨?_,?_⟩,rfl,rfl,?_⟩
   ·show x3.ws.length+1=_;rw [h3.1]
   ·intro y hy
    rcases iC hy with rfl | hy
    ·rfl
    ·exact h3.2 y hy
   ·rw [List.append_assoc] at O
    refine O.sub fun p hp=>?_
    rcases iC hp with rfl | hp
    ·exact iL (iL (iR (.head _)))
    ·exact iL (iR hp)
 kernel_rfl
theorem sEm_valid (F it acc d:Nat):∀(m:Nat) (w:World) (k q:Nat) (v:Value) (xs:LV) (ep:Nat),k+m<=1000->xs.length<=k->Vd w (sEm w F it acc d k m (oneD w "turn" false q v) xs ep (emPost m)):=by
 intro m
 induction m with
 | zero=>
  intro w k q v xs ep hk hx
  revert w
  refine vRow ?_ ?_
  ·exact fun w s N0 t0 G_ D_ I_=>
    dn D_ 0x100b01806018000180001800 ((.ok .next)) [(0,it,riO (Int.ofNat k) (Int.ofNat 0) 1),(3,acc,lst xs ep),(6,d,oneD w "turn" false q v)] [] [] fun s' O=>
   ⟨⟨[],⟨ep,q,v,k⟩⟩,⟨rfl,fun _ h=>nomatch h⟩,rfl,rfl,by have:=O.noGi;rw [←List.append_nil xs] at this;exact this⟩
  kernel_rfl
 | succ m ih=>intro w k q v xs ep hk hx;exact sEm_step F it acc d k m (fun w q v xs ep h=>ih w (k+1) q v xs ep (by lia) h) (by lia) w false q v xs ep hx
theorem sEm1_valid {F it acc d m:Nat} (hm:m<=500) {w:World} {ep:Nat}:Vd w (sEm w F it acc d 0 (m+1) (oneD w "turn" true 0 .none) [] ep (emPost (m+1))):=
 sEm_step F it acc d 0 m (fun w q v xs ep h=>sEm_valid F it acc d m w 1 q v xs ep (by lia) h) (by decide) w true 0 .none [] ep (Nat.le_refl _)
theorem wdVs_at {ws:List Wd} {i:Nat} {y:Wd} (h:ws[i]? =some y):(wdVs ws)[i]? =some (.ref y.at_):=by unfold wdVs;rw [List.getElem?_map,h];rfl
structure WsOk (im:Led) (ws:List Wd):Prop where
 led:∀y∈ws,y.led∈im
 num:∀y∈ws,∀m∈y.ns,m.led∈im
 good:∀y∈ws,∀m∈y.ns,NG3 m.val
 len:∀y∈ws,y.ns.length<=1000
def Wd.val (y:Wd):List LN:=y.ns.map Num.val
def swPost (r:List (List LN)):SwX->Prop:=fun x=>x.ss.map (·.1)=r.map signs
section
variable (F it acc d a epa:Nat) (im:Led) (ws:List Wd)
theorem sSw_step (H:WsOk im ws) (i:Nat) (hi:i<=1000) (y:Wd) (r:List (List LN)) (hy:ws[i]? =some y)
  (ih:∀(w:World) (q:Nat) (v:Value) (xs:LV) (ep:Nat),xs.length<=i+1->Vd w (sSw w F it acc d a (wdVs ws) epa im (i+1) (oneD w "word" false q v) xs ep (swPost r)))
  (w:World) (b:Bool) (q:Nat) (v:Value) (xs:LV) (ep:Nat) (hx:xs.length<=i):Vd w (sSw w F it acc d a (wdVs ws) epa im i (oneD w "word" b q v) xs ep (swPost (y.val::r))):=
 have hm:=List.mem_of_getElem? hy
 by
 revert w b
 refine vFam _ bools [] (fun _=>roNil) ?_ ?_
 ·exact fun b w s N0 t0 G_ D_ I_=>
   psItNI 0x10180001800 it a i (Value.type "list") none (wdVs ws) epa (Value.ref y.at_) (wdVs_at hy) [0] [] (inS (I_ _ (.head _))) fun x1 N1 t1=>
   .ui 0x400030000300c (sSigns y.at_ (numVs y.ns) y.ep (numLed y.ns) (signs y.val)) [] [] (sSigns_valid _ _ _ _ (H.len y hm) (H.good y hm)) (inW D_ (fun p hp=>by
    rcases iC hp with rfl | hp
    ·exact .inl (.tail _ (H.led y hm))
    ·obtain ⟨m,hm2,rfl⟩:=List.mem_map.mp hp
     exact .inl (.tail _ (H.num y hm m hm2)))) tt fun x2 N2 t2=>
   psAppend 0x102400 (Value.type "list") none acc xs ep (Value.str (st (signs y.val)) x2) (by exact leX ‹_› ‹_› rfl) [3] [] fun x3 N3 t3=>
   .uq 0x1 (sSw w F it acc d a (wdVs ws) epa im (i+1) (oneD w (Str.ofString "word") false (pick t1 q b) (Value.ref y.at_)) (xs++[Value.str (st (signs y.val)) x2]) x3 (swPost r)) [0,3,6] [] (ih _ _ _ _ _ (len_snoc hx)) (inJ I_) tt fun x4 N4 t4 h4=>
   dn D_ 0x4 ((.ok .next)) [(0,it,iterE x4.o.i),(3,acc,lst ((xs++[Value.str (st (signs y.val)) x2])++lineVs x4.ss) x4.o.ep),(6,d,oneD w "word" false x4.o.q x4.o.v)] [] [] fun s' O=>⟨⟨(signs y.val,x2)::x4.ss,x4.o⟩,by
   show signs y.val::x4.ss.map (·.1)=_;rw [show x4.ss.map (·.1)=_ from h4];rfl,rfl,rfl,by have:=O.noGi;rw [List.append_assoc] at this;exact this⟩
 kernel_rfl
theorem sSw_valid (hn:ws.length<=1000) (H:WsOk im ws):∀(r:List Wd) (w:World) (i q:Nat) (v:Value) (xs:LV) (ep:Nat),ws.drop i=r->xs.length<=i->Vd w (sSw w F it acc d a (wdVs ws) epa im i (oneD w "word" false q v) xs ep (swPost (r.map Wd.val))):=by
 intro r
 induction r with
 | nil=>
  intro w i q v xs ep hr hx
  have hi:(wdVs ws).length<=i:=by
   have:ws.length<=i:=List.drop_eq_nil_iff.mp hr
   simpa [wdVs] using this
  revert w
  refine vRow ?_ ?_
  ·exact fun w s N0 t0 G_ D_ I_=>
    .ui 0x10180001800 (sItEI it a i (Value.type "list") none (wdVs ws) epa) [0] [] (sItEI_valid hi) (inS (I_ _ (.head _))) tt fun x1 N1 t1=>
    dn D_ 0x1007 ((.ok .next)) [(0,it,iterE i),(3,acc,lst xs ep),(6,d,oneD w "word" false q v)] [] [] fun s' O=>⟨⟨[],⟨ep,q,v,i⟩⟩,rfl,rfl,rfl,by have:=O.noGi;rw [←List.append_nil xs] at this;exact this⟩
  kernel_rfl
 | cons y r ih=>
  intro w i q v xs ep hr hx
  obtain ⟨hgt,hdr⟩:=drop_get hr
  have hi:i<ws.length:=(List.getElem?_eq_some_iff.mp hgt).1
  exact sSw_step F it acc d a epa im ws H i (by lia) y (r.map Wd.val) hgt (fun w q v xs ep h=>ih w (i+1) q v xs ep hdr h) w false q v xs ep hx
end
theorem sSw1_valid (F it acc d a epa:Nat) {im:Led} (y:Wd) (r:List Wd) (hn:(y::r).length<=1000) (H:WsOk im (y::r)) (w:World) (ep:Nat):Vd w (sSw w F it acc d a (wdVs (y::r)) epa im 0 (oneD w "word" true 0 .none) [] ep (swPost ((y::r).map Wd.val))):=
 sSw_step F it acc d a epa im (y::r) H 0 (by decide) y (r.map Wd.val) rfl (fun w q v xs ep h=>sSw_valid F it acc d a epa im (y::r) hn H r w 1 q v xs ep rfl h) w true 0 .none [] ep (Nat.le_refl _)
theorem horner_lt:∀(n:LN) (v:Nat),(∀f∈n,f<64)->horner v n<(v+1)*64^n.length
 | [],v,_=>by simp [horner]
 | f::n,v,h=>by
  have hf:=h f (.head _)
  have:=horner_lt n (v*64+f) fun g hg=>h g (.tail _ hg)
  have e:(v*64+f+1)*64^n.length<=(v+1)*64*64^n.length:=Nat.mul_le_mul_right _ (by lia)
  have e2:(v+1)*64^(f::n).length=(v+1)*64*64^n.length:=by rw [List.length_cons,Nat.pow_succ,Nat.mul_assoc,Nat.mul_comm 64]
  rw [e2]
  exact Nat.lt_of_lt_of_le this e
theorem numOk_of {n:LN} (h:NG3 n):NumOk n:=by
 refine ⟨h.1.1,h.1.2,Nat.lt_of_lt_of_le (horner_lt n 0 h.1.2) ?_⟩
 have:64^n.length<=64^3:=Nat.pow_le_pow_right (by decide) h.2
 have e:(64:Nat)^3<=2^60:=by decide
 lia
def wiPost (r:List LN):WiX->Prop:=fun x=>x.vs.map (·.1)=r.map (horner 0)
section
variable (F d1 it acc d a epa:Nat) (im:Led)
theorem sWi_step (ns:List Num) (him:∀m∈ns,m.led∈im) (i:Nat) (hi:i<=1000) (n:Num) (r:List LN) (hn:ns[i]? =some n) (h3:NG3 n.val)
  (ih:∀(w:World) (q:Nat) (v:Value) (xs:LV) (ep:Nat),xs.length<=i+1->Vd w (sWi w F d1 it acc d a (numVs ns) epa im (i+1) (oneD w "number" false q v) xs ep (wiPost r)))
  (w:World) (b:Bool) (q:Nat) (v:Value) (xs:LV) (ep:Nat) (hx:xs.length<=i):Vd w (sWi w F d1 it acc d a (numVs ns) epa im i (oneD w "number" b q v) xs ep (wiPost (n.val::r))):=
 have hm:=him n (List.mem_of_getElem? hn)
 have g:=num_good h3
 by
 revert w b
 refine vFam _ bools [] (fun _=>roNil) ?_ ?_
 ·exact fun b w s N0 t0 G_ D_ I_=>
   psItNI 0x10180001800 it a i (Value.type "list") none (numVs ns) epa (Value.ref n.at_) (numVs_at hn) [0] [] (inS (I_ _ (.head _))) fun x1 N1 t1=>
   .ui 0x400030000300c (sWorth n.at_ n.fs n.ep (horner 0 n.val)) [] [] (sWorth_valid _ g.2.2 g.1 (by have:=g.2.1;exact leT ‹_› rfl)) (inS (I_ _ (.tail _ hm))) tt fun x2 N2 t2=>
   psAppend 0x102400 (Value.type "list") none acc xs ep (iv (horner 0 n.val) x2) (by exact leX ‹_› ‹_› rfl) [3] [] fun x3 N3 t3=>
   .uq 0x1 (sWi w F d1 it acc d a (numVs ns) epa im (i+1) (oneD w (Str.ofString "number") false (pick t1 q b) (Value.ref n.at_)) (xs++[iv (horner 0 n.val) x2]) x3 (wiPost r)) [0,3,6] [] (ih _ _ _ _ _ (len_snoc hx)) (inJ I_) tt fun x4 N4 t4 h4=>
   dn D_ 0x4 ((.ok .next)) [(0,it,iterE x4.o.i),(3,acc,lst ((xs++[iv (horner 0 n.val) x2])++ivs x4.vs) x4.o.ep),(6,d,oneD w "number" false x4.o.q x4.o.v)] [] [] fun s' O=>⟨⟨(horner 0 n.val,x2)::x4.vs,x4.o⟩,by
   show horner 0 n.val::x4.vs.map (·.1)=_;rw [show x4.vs.map (·.1)=_ from h4];rfl,rfl,rfl,by have:=O.noGi;rw [List.append_assoc] at this;exact this⟩
 kernel_rfl
theorem sWi_valid (ns:List Num) (hl:ns.length<=1000) (him:∀m∈ns,m.led∈im) (hg:∀m∈ns,NG3 m.val):∀(r:List Num) (w:World) (i q:Nat) (v:Value) (xs:LV) (ep:Nat),ns.drop i=r->xs.length<=i->Vd w (sWi w F d1 it acc d a (numVs ns) epa im i (oneD w "number" false q v) xs ep (wiPost (r.map Num.val))):=by
 intro r
 induction r with
 | nil=>
  intro w i q v xs ep hr hx
  have hi:(numVs ns).length<=i:=by
   have:ns.length<=i:=List.drop_eq_nil_iff.mp hr
   simpa [numVs] using this
  revert w
  refine vRow ?_ ?_
  ·exact fun w s N0 t0 G_ D_ I_=>
    .ui 0x10180001800 (sItEI it a i (Value.type "list") none (numVs ns) epa) [0] [] (sItEI_valid hi) (inS (I_ _ (.head _))) tt fun x1 N1 t1=>
    dn D_ 0x1007 ((.ok .next)) [(0,it,iterE i),(3,acc,lst xs ep),(6,d,oneD w "number" false q v)] [] [] fun s' O=>⟨⟨[],⟨ep,q,v,i⟩⟩,rfl,rfl,rfl,by have:=O.noGi;rw [←List.append_nil xs] at this;exact this⟩
  kernel_rfl
 | cons n r ih=>
  intro w i q v xs ep hr hx
  obtain ⟨hgt,hdr⟩:=drop_get hr
  have hi:i<ns.length:=(List.getElem?_eq_some_iff.mp hgt).1
  exact sWi_step F d1 it acc d a epa im ns him i (by lia) n (r.map Num.val) hgt (hg n (List.mem_of_getElem? hgt)) (fun w q v xs ep h=>ih w (i+1) q v xs ep hdr h) w false q v xs ep hx
theorem sWi1_valid (n:Num) (r:List Num) (hl:(n::r).length<=1000) (him:∀m∈n::r,m.led∈im) (hg:∀m∈n::r,NG3 m.val) (w:World) (ep:Nat):Vd w (sWi w F d1 it acc d a (numVs (n::r)) epa im 0 (oneD w "number" true 0 .none) [] ep (wiPost ((n::r).map Num.val))):=
 sWi_step F d1 it acc d a epa im (n::r) him 0 (by decide) n (r.map Num.val) rfl (hg n (.head _)) (fun w q v xs ep h=>sWi_valid F d1 it acc d a epa im (n::r) hl him hg r w 1 q v xs ep rfl h) w true 0 .none [] ep (Nat.le_refl _)
end
def woPost (r:List (List LN)):WoX->Prop:=fun x=>x.ns.map Num.val=r.map fun ns=>ns.map (horner 0)
theorem sWo_step (F it acc d a epa:Nat) (im:Led) (ws:List Wd) (H:WsOk im ws) (i:Nat) (hi:i<=1000) (y:Wd) (r:List (List LN)) (hy:ws[i]? =some y)
  (ih:∀(w:World) (q:Nat) (v:Value) (xs:LV) (ep:Nat),xs.length<=i+1->Vd w (sWo w F it acc d a (wdVs ws) epa im (i+1) (oneD w "word" false q v) xs ep (woPost r)))
  (w:World) (b:Bool) (q:Nat) (v:Value) (xs:LV) (ep:Nat) (hx:xs.length<=i):Vd w (sWo w F it acc d a (wdVs ws) epa im i (oneD w "word" b q v) xs ep (woPost (y.val::r))):=by
 have hm:=List.mem_of_getElem? hy
 have hled:y.led∈(a,lst (wdVs ws) epa)::im:=.tail _ (H.led y hm)
 cases hns:y.ns with
 | nil=>
  have hl:(y.at_,lst [] y.ep)∈(a,lst (wdVs ws) epa)::im:=by
   have:=hled
   unfold Wd.led at this
   rw [hns] at this
   exact this
  have hv:y.val=[]:=by unfold Wd.val;rw [hns];rfl
  rw [hv]
  have fin:∀{b:Bool} {s s':Shared} {w:World} {N1:Nat} {x3:WoX},woPost r x3->∀{bag:Led},Out s s' ((sWo w F it acc d a (wdVs ws) epa im i (oneD w "word" b q v) xs ep (woPost ([]::r))).need.map (·.1)) (rezip (sWo w F it acc d a (wdVs ws) epa im i (oneD w "word" b q v) xs ep (woPost ([]::r))).need [iterE x3.o.i,lst ((xs++[.ref (N1+1)])++numVs x3.ns) x3.o.ep,oneD w "word" false x3.o.q x3.o.v]) [] bag->(N1+1,lst [] 0)∈bag->(∀p∈numLed x3.ns,p∈bag)->
    Post (sWo w F it acc d a (wdVs ws) epa im i (oneD w "word" b q v) xs ep (woPost ([]::r))) s (.ok .next) s':=fun {b s s' w N1 x3} h3 {bag} O b1 b2=>by
   refine ⟨⟨⟨N1+1,0,[]⟩::x3.ns,x3.o⟩,?_,rfl,rfl,?_⟩
   ·show []::x3.ns.map Num.val=_;rw [show x3.ns.map Num.val=_ from h3];rfl
   ·rw [List.append_assoc] at O
    refine O.sub fun p hp=>?_
    rcases iC hp with rfl | hp
    ·exact b1
    ·exact b2 p hp
  revert w b
  refine vFam2 _ bools [(y.at_,lst [] y.ep)] (fun _ _=>(fun p hp=>List.mem_singleton.mp hp▸hl)) ?_ ?_
  ·exact fun cc b w s N0 t0 G_ D_ I_=>
    psItNI 0x10180001800 it a i (Value.type "list") none (wdVs ws) epa (Value.ref y.at_) (wdVs_at hy) [0] [] (inS (I_ _ (.head _))) fun x1 N1 t1=>
    psAppend (cond cc 0x1024000381402008800080200002000020000000800200002008000c0300c 0x1024000381402008800080200002000020000200002000020080000800200002008000c0300c) (Value.type "list") none acc xs ep (Value.ref (N1+1)) (by exact leX ‹_› ‹_› rfl) [3] [5] fun x2 N2 t2=>
    .use 0x1 (sWo w F it acc d a (wdVs ws) epa im (i+1) (oneD w (Str.ofString "word") false (pick t1 q b) (Value.ref y.at_)) (xs++[Value.ref (N1+1)]) x2 ((fun _=>woPost r) (N1+1))) [0,3,6] [] [(1,N1+1,lst [] 0)] (ih _ _ _ _ _ (len_snoc hx)) (inJ I_) fun x3 N3 t3 h3=>
    dn D_ 0x4 ((.ok .next)) [(0,it,iterE x3.o.i),(3,acc,lst ((xs++[Value.ref (N1+1)])++numVs x3.ns) x3.o.ep),(6,d,oneD w "word" false x3.o.q x3.o.v)] [] [] fun s' O=>fin (N1:=N1) h3 O (iL (iL (iR (.head _)))) (fun p hp=>iL (iR hp))
  kernel_rfl
 | cons n ns=>
  have him:∀m∈n::ns,m.led∈numLed y.ns:=fun m hm=>by rw [hns];exact List.mem_map_of_mem hm
  have inner:∀(w:World) (F d1 it acc d:Nat),Vd w (sWi w F d1 it acc d y.at_ (numVs y.ns) y.ep (numLed y.ns) 0 (dictO w [] 0) [] 0 (wiPost y.val)):=fun w F d1 it acc d=>by
   have z:=sWi1_valid F d1 it acc d y.at_ y.ep (numLed y.ns) n ns (by rw [←hns];exact H.len y hm) him (by rw [←hns];exact H.good y hm) w 0
   rw [←hns] at z
   exact z
  have iin:∀{p:Nat×Obj} {bag:Led},p∈(y.at_,lst (numVs y.ns) y.ep)::numLed y.ns->p∈(a,lst (wdVs ws) epa)::im\/p∈bag:=fun {p bag} hp=>by
   rcases iC hp with rfl | hp
   ·exact .inl hled
   ·obtain ⟨m,hm2,rfl⟩:=List.mem_map.mp hp
    exact .inl (.tail _ (H.num y hm m hm2))
  have fin:∀{b:Bool} {s s':Shared} {w:World} {N1:Nat} {x2:WiX} {x4:WoX},wiPost y.val x2->woPost r x4->∀{bag:Led},Out s s' ((sWo w F it acc d a (wdVs ws) epa im i (oneD w "word" b q v) xs ep (woPost (y.val::r))).need.map (·.1)) (rezip (sWo w F it acc d a (wdVs ws) epa im i (oneD w "word" b q v) xs ep (woPost (y.val::r))).need [iterE x4.o.i,lst ((xs++[.ref (N1+1)])++numVs x4.ns) x4.o.ep,oneD w "word" false x4.o.q x4.o.v]) [] bag->(N1+1,lst ([]++ivs x2.vs) x2.o.ep)∈bag->(∀p∈numLed x4.ns,p∈bag)->
    Post (sWo w F it acc d a (wdVs ws) epa im i (oneD w "word" b q v) xs ep (woPost (y.val::r))) s (.ok .next) s':=fun {b s s' w N1 x2 x4} h2 h4 {bag} O b1 b2=>by
   refine ⟨⟨⟨N1+1,x2.o.ep,x2.vs⟩::x4.ns,x4.o⟩,?_,rfl,rfl,?_⟩
   ·show x2.vs.map (·.1)::x4.ns.map Num.val=_;rw [show x4.ns.map Num.val=_ from h4,show x2.vs.map (·.1)=_ from h2];rfl
   ·rw [List.append_assoc] at O
    refine O.sub fun p hp=>?_
    rcases iC hp with rfl | hp
    ·exact b1
    ·exact b2 p hp
  revert w b
  refine vFam2 _ bools [y.led] (fun _ _=>(fun p hp=>List.mem_singleton.mp hp▸hled)) ?_ ?_
  ·exact fun cc b w s N0 t0 G_ D_ I_=>
    psItNI 0x10180001800 it a i (Value.type "list") none (wdVs ws) epa (Value.ref y.at_) (wdVs_at hy) [0] [] (inS (I_ _ (.head _))) fun x1 N1 t1=>
    .uq (cond cc 0x10000800200002008000c0300c 0x10200002000020080000800200002008000c0300c) (sWi w F d N1 (N1+1) (N1+2) y.at_ (numVs y.ns) y.ep (numLed y.ns) 0 (dictO w [] 0) [] 0 (wiPost y.val)) [2,5,8] [5,8] (inner _ _ _ _ _ _) (inW D_ (fun p hp=>iin hp)) tt fun x2 N2 t2 h2=>
    psAppend 0x4090000a0280a (Value.type "list") none acc xs ep (Value.ref (N1+1)) (by exact leX ‹_› ‹_› rfl) [3] [1] fun x3 N3 t3=>
    .use 0x1 (sWo w F it acc d a (wdVs ws) epa im (i+1) (oneD w (Str.ofString "word") false (pick t1 q b) (Value.ref y.at_)) (xs++[Value.ref (N1+1)]) x3 ((fun _ _=>woPost r) (N1+1) x2)) [0,3,6] [] [(1,N1+1,lst ([]++ivs x2.vs) x2.o.ep)] (ih _ _ _ _ _ (len_snoc hx)) (inJ I_) fun x4 N4 t4 h4=>
    dn D_ 0x4 ((.ok .next)) [(0,it,iterE x4.o.i),(3,acc,lst ((xs++[Value.ref (N1+1)])++numVs x4.ns) x4.o.ep),(6,d,oneD w "word" false x4.o.q x4.o.v)] [] [] fun s' O=>fin (N1:=N1) h2 h4 O (iL (iL (iR (.head _)))) (fun p hp=>iL (iR hp))
  kernel_rfl
theorem sWo_valid (F it acc d a epa:Nat) (im:Led) (ws:List Wd) (hn:ws.length<=1000) (H:WsOk im ws):∀(r:List Wd) (w:World) (i q:Nat) (v:Value) (xs:LV) (ep:Nat),ws.drop i=r->xs.length<=i->Vd w (sWo w F it acc d a (wdVs ws) epa im i (oneD w "word" false q v) xs ep (woPost (r.map Wd.val))):=by
 intro r
 induction r with
 | nil=>
  intro w i q v xs ep hr hx
  have hi:(wdVs ws).length<=i:=by
   have:ws.length<=i:=List.drop_eq_nil_iff.mp hr
   simpa [wdVs] using this
  revert w
  refine vRow ?_ ?_
  ·exact fun w s N0 t0 G_ D_ I_=>
    .ui 0x10180001800 (sItEI it a i (Value.type "list") none (wdVs ws) epa) [0] [] (sItEI_valid hi) (inS (I_ _ (.head _))) tt fun x1 N1 t1=>
    dn D_ 0x1007 ((.ok .next)) [(0,it,iterE i),(3,acc,lst xs ep),(6,d,oneD w "word" false q v)] [] [] fun s' O=>⟨⟨[],⟨ep,q,v,i⟩⟩,rfl,rfl,rfl,by rw [←List.append_nil xs] at O;exact O.sub fun p hp=>nomatch hp⟩
  kernel_rfl
 | cons y r ih=>
  intro w i q v xs ep hr hx
  obtain ⟨hgt,hdr⟩:=drop_get hr
  have hi:i<ws.length:=(List.getElem?_eq_some_iff.mp hgt).1
  exact sWo_step F it acc d a epa im ws H i (by lia) y (r.map Wd.val) hgt (fun w q v xs ep h=>ih w (i+1) q v xs ep hdr h) w false q v xs ep hx
theorem sWo1_valid (F it acc d a epa:Nat) {im:Led} (y:Wd) (r:List Wd) (hn:(y::r).length<=1000) (H:WsOk im (y::r)) (w:World) (ep:Nat):Vd w (sWo w F it acc d a (wdVs (y::r)) epa im 0 (oneD w "word" true 0 .none) [] ep (woPost ((y::r).map Wd.val))):=
 sWo_step F it acc d a epa im (y::r) H 0 (by decide) y (r.map Wd.val) rfl (fun w q v xs ep h=>sWo_valid F it acc d a epa im (y::r) hn H r w 1 q v xs ep rfl h) w true 0 .none [] ep (Nat.le_refl _)
def nwPost (r:List (List LN)):NwX->Prop:=fun x=>x.ns.map Num.val=r.map fun ns=>ns.map (horner 0)
structure Rw where
 wd:LN
 t:Nat
 nums:List LN
def Rw.v (y:Rw):Value:=.str (st y.wd) y.t
structure RwOk (y:Rw):Prop where
 len:y.wd.length<=1000
 code:y.wd=(y.nums.map vcode).flatten
 num:∀n∈y.nums,NumOk n
 few:y.nums.length<=y.wd.length
 low:∀c∈y.wd,c<128
theorem kind313 {w:World} {F:Nat}:(fnEnv w 313 F []).scope.kind≠.module:=by rw [show (fnEnv w 313 F []).scope.kind=.function from by kernel_rfl];exact nofun
theorem frame313 {w:World} {F:Nat}:(fnEnv w 313 F []).frame=some F:=rfl
theorem rwVs_at {ws:List Rw} {i:Nat} {y:Rw} (h:ws[i]? =some y):(ws.map Rw.v)[i]? =some (.str (st y.wd) y.t):=by rw [List.getElem?_map,h];rfl
section
variable (F it acc d a epa:Nat) (fo:Obj) {es0:Array DictEntry} {ed0:Nat}
theorem sNw_step (hd:fo.data=.dict es0 ed0) (ws:List Rw) (i:Nat) (hi:i<=1000) (y:Rw) (H:RwOk y) (r:List (List LN)) (hy:ws[i]? =some y)
  (ih:∀(w:World) (sl:Array (Option Value)) (q:Nat) (v:Value) (xs:LV) (ep:Nat),xs.length<=i+1->Vd w (sNw w F it acc d a (ws.map Rw.v) epa (i+1) (slt fo sl) (oneD w "word" false q v) xs ep (nwPost r)))
  (w:World) (fo1:Obj) (h1:fo1=fo\/∃sl,fo1=slt fo sl) (b:Bool) (q:Nat) (v:Value) (xs:LV) (ep:Nat) (hx:xs.length<=i):Vd w (sNw w F it acc d a (ws.map Rw.v) epa i fo1 (oneD w "word" b q v) xs ep (nwPost (y.nums::r))):=by
 have hd1:fo1.data=.dict es0 ed0:=by rcases h1 with rfl | ⟨sl,rfl⟩ <;>exact hd
 have hs:∀sl,slt fo1 sl=slt fo sl:=by intro sl;rcases h1 with rfl | ⟨sl,rfl⟩ <;>rfl
 revert w b
 refine vFam _ bools [] (fun _=>roNil) ?_ ?_
 ·exact fun b w s N0 t0 G_ D_ I_=>
   psItNI 0x10240002400 it a i (Value.type "list") none (ws.map Rw.v) epa (Value.str (st y.wd) y.t) (rwVs_at hy) [3] [] (inJ I_) fun x1 N1 t1=>
   .up 0x40003c0003c0f (sNm w y.wd y.t F fo1 (fnEnv w 313 F []) (y.nums.map (horner 0))) [0] [] (sNm_valid _ (kind313) (frame313) hd1 H.len H.code H.num H.few H.low) tt fun x2 N2 t2 h2=>
   psAppend 0x103000 (Value.type "list") none acc xs ep (Value.ref x2.tl) (by exact leX ‹_› ‹_› rfl) [6] [1] fun x3 N3 t3=>
   .use 0x1 (sNw w F it acc d a (ws.map Rw.v) epa (i+1) (slt fo1 x2.s0) (oneD w (Str.ofString "word") false (pick t1 q b) (Value.str (st y.wd) y.t)) (xs++[Value.ref x2.tl]) x3 ((fun _ _ _=>nwPost r) x2.tl x2.vs x2.ep)) [0,3,6,9] [] [(1,x2.tl,lst (ivs x2.vs) x2.ep)] (by rw [hs];exact ih _ _ _ _ _ _ (len_snoc hx)) (inJ I_) fun x4 N4 t4 h4=>
   dn D_ 0x4 ((.ok .next)) [(0,F,slt fo1 x4.s0),(3,it,iterE x4.o.i),(6,acc,lst ((xs++[Value.ref x2.tl])++numVs x4.ns) x4.o.ep),(9,d,oneD w "word" false x4.o.q x4.o.v)] [] [] fun s' O=>⟨⟨⟨x2.tl,x2.ep,x2.vs⟩::x4.ns,x4.s0,x4.o⟩,by
   show x2.vs.map (·.1)::x4.ns.map Num.val=_;rw [show x4.ns.map Num.val=_ from h4,show x2.vs.map (·.1)=_ from h2];rfl,rfl,rfl,by
    rw [List.append_assoc] at O
    refine O.sub fun p hp=>?_
    rcases iC hp with rfl | hp
    ·exact iL (iL (iR (.head _)))
    ·exact iL (iR hp)⟩
 kernel_rfl
theorem sNw_valid (hd:fo.data=.dict es0 ed0) (ws:List Rw) (hn:ws.length<=1000) (H:∀y∈ws,RwOk y):∀(r:List Rw) (w:World) (i:Nat) (sl:Array (Option Value)) (q:Nat) (v:Value) (xs:LV) (ep:Nat),ws.drop i=r->xs.length<=i->Vd w (sNw w F it acc d a (ws.map Rw.v) epa i (slt fo sl) (oneD w "word" false q v) xs ep (nwPost (r.map Rw.nums))):=by
 intro r
 induction r with
 | nil=>
  intro w i sl q v xs ep hr hx
  have hi:(ws.map Rw.v).length<=i:=by
   have:ws.length<=i:=List.drop_eq_nil_iff.mp hr
   simpa using this
  revert w
  refine vRow ?_ ?_
  ·exact fun w s N0 t0 G_ D_ I_=>
    .ui 0x10240002400 (sItEI it a i (Value.type "list") none (ws.map Rw.v) epa) [3] [] (sItEI_valid hi) (inS (I_ _ (.head _))) tt fun x1 N1 t1=>
    dn D_ 0x1007 ((.ok .next)) [(0,F,slt fo sl),(3,it,iterE i),(6,acc,lst xs ep),(9,d,oneD w "word" false q v)] [] [] fun s' O=>⟨⟨[],sl,⟨ep,q,v,i⟩⟩,rfl,rfl,rfl,by rw [←List.append_nil xs] at O;exact O.sub fun p hp=>nomatch hp⟩
  kernel_rfl
 | cons y r ih=>
  intro w i sl q v xs ep hr hx
  obtain ⟨hgt,hdr⟩:=drop_get hr
  have hi:i<ws.length:=(List.getElem?_eq_some_iff.mp hgt).1
  exact sNw_step F it acc d a epa fo hd ws i (by lia) y (H y (List.mem_of_getElem? hgt)) (r.map Rw.nums) hgt (fun w sl q v xs ep h=>ih w (i+1) sl q v xs ep hdr h) w _ (.inr ⟨sl,rfl⟩) false q v xs ep hx
theorem sNw1_valid (hd:fo.data=.dict es0 ed0) (y:Rw) (r:List Rw) (hn:(y::r).length<=1000) (H:∀z∈y::r,RwOk z) (w:World) (ep:Nat):Vd w (sNw w F it acc d a ((y::r).map Rw.v) epa 0 fo (oneD w "word" true 0 .none) [] ep (nwPost ((y::r).map Rw.nums))):=
 sNw_step F it acc d a epa fo hd (y::r) 0 (by decide) y (H y (.head _)) (r.map Rw.nums) rfl (fun w sl q v xs ep h=>sNw_valid F it acc d a epa fo hd (y::r) hn H r w 1 sl q v xs ep rfl h) w fo (.inl rfl) true 0 .none [] ep (Nat.le_refl _)
end
noncomputable def rep1 (c:Nat) (z:LN) (l:LN):LN:=l.flatMap fun k=>if k=c then z else [k]
theorem rep1_append (c:Nat) (z a b:LN):rep1 c z (a++b)=rep1 c z a++rep1 c z b:=by simp [rep1]
theorem rep1_free (c:Nat) (z:LN):∀l:LN,c∉l->rep1 c z l=l
 | [],_=>rfl
 | k::r,h=>by
  have h1:¬k=c:=fun e=>h (e▸List.mem_cons_self ..)
  have h2:=rep1_free c z r fun m=>h (List.mem_cons_of_mem _ m)
  show (if k=c then z else [k])++rep1 c z r=_
  rw [if_neg h1,h2];rfl
theorem rep1_one (c:Nat) (z:LN):rep1 c z [c]=z:=by simp [rep1]
theorem rep1_join (c:Nat) (z:LN):∀parts:List Str,(∀p∈parts,c∉p.cps.toList)->rep1 c z (Str.join ⟨#[c]⟩ parts).cps.toList=(Str.join ⟨z.toArray⟩ parts).cps.toList
 | [],_=>rfl
 | [p],h=>rep1_free c z _ (h p (List.mem_singleton.mpr rfl))
 | p::q::r,h=>by
  have ih:=rep1_join c z (q::r) fun a ha=>h a (List.mem_cons_of_mem _ ha)
  show rep1 c z (p++⟨#[c]⟩++Str.join ⟨#[c]⟩ (q::r)).cps.toList=(p++⟨z.toArray⟩++Str.join ⟨z.toArray⟩ (q::r)).cps.toList
  simp only [Str.cps_append,Array.toList_append]
  rw [rep1_append,rep1_append,ih,rep1_free c z _ (h p (List.mem_cons_self ..))]
  show p.cps.toList++rep1 c z [c]++_=_
  rw [rep1_one]
theorem replace_rep1 (x:Str) (c:Nat) (z:LN):PySem.Txt.replace x ⟨#[c]⟩ (st z)=st (rep1 c z x.cps.toList):=by
 refine Str.ext' (Array.ext' ?_)
 rw [StrLaws.replace_one]
 show (Str.join ⟨z.toArray⟩ _).cps.toList=_
 rw [←rep1_join c z _ (StrLaws.split_free x c),StrLaws.join_split]
 simp [st]
theorem sRepl_valid {w:World} {x:LN} {t c ta u b1 b2:Nat} {y:LN} (h0:ta≠0) (h1:u≠0) (h2:ta≠u) (hl:x.length<=1000) (hy:rep1 c [b1,b2] x=y):Vd w (sRepl x t c ta u b1 b2 y):=by
 subst hy
 have hx:(st x).length=x.length:=by simp [st,Str.length]
 have hz:(st [b1,b2]).length=2:=rfl
 have hocc:=StrLaws.occ_length_le (st x) (st [c]) 0 (st x).length ((st x).length+1)
 have hne:(st [c]==st [b1,b2])=false:=by
  refine beq_eq_false_iff_ne.mpr fun e=>?_
  have:=congrArg Str.length e
  cases this
 have hlong:tooLong ((st x).length+(occurrences (st x) (st [c]) 0 (st x).length ((st x).length+1)).length*(st [b1,b2]).length)=false:=by
  unfold tooLong
  rw [hz]
  simp only [sizeLine_eq,decide_eq_false_iff_not]
  lia
 have g:=gives_str_replace (st x) (st [c]) (st [b1,b2]) t ta u fun _=>⟨by simp [h0,h1],by simpa using h2,hne,hlong⟩
 have hr:=replace_rep1 (st x) c [b1,b2]
 unfold PySem.Txt.replace at hr
 have e:(st x).cps.toList=x:=by simp [st]
 rw [e] at hr
 by_cases hc:((occurrences (st x) (st [c]) 0 (st x).length ((st x).length+1)).isEmpty|| ((st [c]).length==0&&(st [b1,b2]).length==0))=true
 ·rw [if_pos hc] at g
  have hr':st x=st (rep1 c [b1,b2] x):=by rw [←hr];exact (if_pos hc).symm
  rw [hr'] at g
  unfold sRepl
  rw [hr']
  exact valid_m rfl PySem.F.slot_str_replace.plain PySem.F.entry_str_replace g.meets fun A s room base need imm=>⟨t,trivial,rfl,rfl,out_nil rfl rfl rfl⟩
 ·rw [if_neg hc] at g
  refine sT_str PySem.F.slot_str_replace.plain PySem.F.entry_str_replace g ?_ (fits_replaced _ (by rw [hx,hz];lia))
  rw [←hr];exact (if_neg hc).symm
theorem rep1_enc:∀l:LN,rep1 34 [92,34] (rep1 92 [92,92] l)=l.flatMap encQ
 | []=>rfl
 | k::r=>by
  have ih:=rep1_enc r
  have e:rep1 92 [92,92] (k::r)=(if k=92 then [92,92] else [k])++rep1 92 [92,92] r:=rfl
  rw [e,rep1_append,ih]
  show _=encQ k++_
  congr 1
  unfold encQ rep1
  by_cases h1:k=92
  ·subst h1;rfl
  ·by_cases h2:k=34
   ·subst h2;rfl
   ·simp [h1,h2]
theorem rep1_len (c b1 b2:Nat):∀l:LN,(rep1 c [b1,b2] l).length<=2*l.length
 | []=>Nat.le_refl _
 | k::r=>by
  have ih:=rep1_len c b1 b2 r
  have e:rep1 c [b1,b2] (k::r)=(if k=c then [b1,b2] else [k])++rep1 c [b1,b2] r:=rfl
  rw [e,List.length_append,List.length_cons]
  split <;>simp <;>lia
def sDrawA (c:Nat) (vs:LV) (ep:Nat) (post:Nat×List Num->Prop):Summ where
 code:=.call (.ref 265) ⟨[.ref c],[]⟩
 imm:=[(c,lst vs ep)]
 Res:=Nat×List Num
 post:=post
 res:=fun x=>.ok (.ret (.ref x.1))
 new:=fun x=>[(x.1,lst (numVs x.2) 0)]
 giveImm:=fun x=>numLed x.2
 giv:=true
 d:=60
 u:=120
def daPost (cs:LN):Nat×List Num->Prop:=fun x=>x.2.map Num.val=drawnAll cs
theorem sDrawA_valid {w:World} {c:Nat} {l:List (Nat×Nat)} {ep:Nat} (hl:l.length<=1000):Vd w (sDrawA c (ivs l) ep (daPost (l.map (·.1)))):=
 fun A s room base need imm nodup msk gn=>codeAny_mono (sDrawn_valid w c l ep hl A s ⟨room.handled,room.depth,room.units,room.env,room.frames,room.fr⟩ base need imm nodup msk gn) fun r s' hr=>by
  obtain ⟨x,hx,hr,hlen,O⟩:=hr
  have O:Out s s' [] [] [(x.a,lst (([]++numVs x.ns)++[.ref x.n]) 0)] (numLed x.ns++[(x.n,lst [iv 63 x.t] 0)]):=O
  rw [DwX.vs x,DwX.led x] at O
  exact ⟨(x.a,x.all),hx,hr,hlen,O⟩
noncomputable def sI (S:Summ) (a:Nat) (o:Obj) (im:Led):Summ:={S with need:=(a,o)::S.need,imm:=im,upd:=fun x=>o::S.upd x}
theorem sI_valid {w:World} {S:Summ} {a:Nat} {o:Obj} {im:Led} (h:S.imm=(a,o)::im) (V:Vd w S):Vd w (sI S a o im):=
 fun A s room base need imm nodup msk gn=>by
  have nd:=List.nodup_cons.mp nodup
  have ha:s.heap.get? a=some o:=need _ (.head _)
  refine codeAny_mono (V A s ⟨room.handled,room.depth,room.units,room.env,room.frames,room.fr⟩ base (fun p hp=>need p (.tail _ hp)) (fun p hp=>?_) nd.2 (fun p hp=>msk p (.tail _ hp)) gn) fun r s' hr=>?_
  ·rw [h] at hp
   rcases iC hp with rfl | hp
   ·exact ⟨ha,nd.1⟩
   ·exact ⟨(imm p hp).1,fun hm=>(imm p hp).2 (.tail _ hm)⟩
  ·obtain ⟨x,hx,hr,hlen,O⟩:=hr
   refine ⟨x,hx,hr,?_,O.grow (O.keep a o ha nd.1)⟩
   show (S.upd x).length+1+S.gone=S.need.length+1
   lia
section
variable {M:Model} {A:Around} {c:Code}
theorem room_le (hu:A.units<cLine) (what:String):Le M A c (pure ()) (cRoom what):=fun Γ p s Q E hc hΓ h=>by
 rw [roomQ_eq]
 unfold roomQ
 rw [Sem.wp_bind']
 show Sem.wp M Γ (Sem.stack _) _ _ p s
 rw [Sem.wp]
 show Sem.wp M Γ (Sem.pure _) _ _ p s
 rw [Sem.wp]
 have:roomF ((Γ.code,p)::Γ.below)=false:=(lies_of hΓ).room hu
 rw [this]
 exact h
theorem roomFor_le (hu:A.units<cLine) {what:String} {vs:LV}:Le M A c (pure ()) (cRoomFor what vs):=by
 unfold cRoomFor
 split
 ·exact room_le hu what
 ·exact Le.refl _
noncomputable def cmpT (a b:Value):Sem Value:=PySem.holding [a,b] (match oneThing? .NotEq a b with
 | some _=>PySem.unsupported "no"
 | none=>do
  let ta ←typeOf a
  let tb ←typeOf b
  match ta !=tb with
  | true=>PySem.unsupported "no"
  | false=>do
   match ←tryCompare a "__ne__" b with
   | some v=>pure v
   | none=>PySem.unsupported "no")
theorem cmpT_le (hu:A.units<cLine) (a b:Value):Le M A c (cmpT a b) (compareOp .NotEq a b):=by
 show Le M A c (cmpT a b) (richCompare .NotEq a b)
 unfold cmpT richCompare
 refine Le.holding (Le.at_pure (roomFor_le hu) ?_)
 cases h1:oneThing? .NotEq a b with
 | some v=>exact Le.unsupported _
 | none=>
  refine Le.bind (Le.refl _) fun ta=>Le.bind (Le.refl _) fun tb=>?_
  cases h2:ta !=tb with
  | true=>exact Le.unsupported _
  | false=>
   simp only [Bool.false_eq_true,if_false,pure_bind]
   refine Le.bind (Le.refl _) fun v=>?_
   cases v with
   | some v=>exact Le.refl _
   | none=>exact Le.unsupported _
def ifT (l r:Expr) (p:Pos) (b o:List Stmt) (pos:Pos) (env:Env):Sem Flow:=do
 standAt pos
 let a ←eval l env
 let rv ←PySem.holding [a] (markedBehindIn .NotEq r (eval r env))
 standAt p
 let x ←operate [a,rv] (cmpT a rv)
 if ←PySem.holding [x] (truthy x) then execs b env else execs o env
theorem ifT_le (hu:A.units<cLine) {l r:Expr} {p:Pos} {b o:List Stmt} {pos:Pos} {env:Env}:Le M A c (ifT l r p b o pos env) (exec (.If (.Compare l [.NotEq] [r] p) b o pos) env):=by
 refine Le.bind (Le.refl _) fun _=>?_
 show Le M A c _ ((eval l env>>=fun a=>(do
  let rv ←PySem.holding [a] (markedBehindIn .NotEq r (eval r env))
  standAt p
  let x ←operate [a,rv] (compareOp .NotEq a rv)
  PySem.holding [x] (truthy x)))>>=fun t=>if t then execs b env else execs o env)
 simp only [bind_assoc]
 refine Le.bind (Le.refl _) fun a=>Le.bind (Le.refl _) fun rv=>Le.bind (Le.refl _) fun _=>Le.bind ?_ fun x=>Le.refl _
 unfold operate
 exact Le.bind (Le.holding (cmpT_le hu a rv)) fun _=>Le.refl _
def stT (s:Stmt) (env:Env):Sem Flow:=match s with
 | .If (.Compare l [.NotEq] [r] p) b o pos=>ifT l r p b o pos env
 | s=>exec s env
theorem stT_le (hu:A.units<cLine) (s:Stmt) (env:Env):Le M A c (stT s env) (exec s env):=by
 cases s with
 | If t b o pos=>
  cases t with
  | Compare l ops rs p=>
   cases ops with
   | nil=>exact Le.refl _
   | cons q ops=>
    cases ops with
    | cons _ _=>cases q <;>exact Le.refl _
    | nil=>
     cases rs with
     | nil=>cases q <;>exact Le.refl _
     | cons r rs=>
      cases rs with
      | cons _ _=>cases q <;>exact Le.refl _
      | nil=>cases q <;>first | exact Le.refl _ | exact ifT_le hu
  | _=>exact Le.refl _
 | _=>exact Le.refl _
noncomputable def execsT (env:Env):List Stmt->Sem Flow
 | []=>pure .next
 | s::r=>seqT (stT s env) (execsT env r)
theorem execsT_le (hu:A.units<cLine) (env:Env):∀l:List Stmt,Le M A c (execsT env l) (execs l env)
 | []=>by rw [execs];exact Le.refl _
 | s::r=>by
  rw [execs]
  exact seqT_le (stT_le hu s env) (execsT_le hu env r)
def forT (target:Expr) (it:Value) (body orelse:List Stmt) (env:Env):Sem PySem.Fin:=Sem.onRaise (do
 standAt target.pos
 match ←(pyNext it).onRaise (fun _=>standAt {target.pos with line:=0}) with
 | none=>again (.block orelse env)
 | some v=>do
  letOwnedTupleGo target it v
  assign target env v
  match ←execsT env body with
  | .next | .cont=>again (.forLoop target it body orelse env)
  | .brk=>pure (.done .next)
  | .ret v=>pure (.done (.ret v))) (fun x=>do noteFrame x env;theTreesLotGoes x)
theorem forT_le (hu:A.units<cLine) {target:Expr} {it:Value} {body orelse:List Stmt} {env:Env}:Le M A c (forT target it body orelse env) (denote table (.forLoop target it body orelse env)):=by
 refine Le.onRaise (Le.bind (Le.refl _) fun _=>Le.bind (Le.refl _) fun v=>?_)
 cases v with
 | none=>exact Le.refl _
 | some v=>exact Le.bind (Le.refl _) fun _=>Le.bind (Le.refl _) fun _=>Le.bind (execsT_le hu env body) fun _=>Le.refl _
end
end Mine
lay_z Mine.forT
namespace Mine
def forZ (st:Stmt) (it:Value) (env:Env):Sem PySem.Fin:=PySem.W.ZFast.zw5907470759903397067 (forTgt st) it (partS st 0) (partS st 1) env
theorem forZ_le {w:World} {S:Summ} {st:Stmt} {it:Value} {env:Env} (hl:S.code=.forLoop (forTgt st) it (partS st 0) (partS st 1) env) (hu:200<=S.u):∀A,RoomOk A S->Le (model pw w) (A.under S.code) S.code (forZ st it env) (denote table S.code):=fun A room=>by
 unfold forZ
 rw [←PySem.W.ZFast.ze5907470759903397067,hl]
 refine forT_le ?_
 have h1:(A.under (.forLoop (forTgt st) it (partS st 0) (partS st 1) env)).units=A.units:=by rfl
 have:=room.units
 lia
def stLw (w:World):Stmt:=atS (fnBody w 313) 9 []
structure LwX where
 b1:Nat
 b2:Nat
 b3:Nat
def sLaw (S:Nat) (xs:LV) (eps:Nat):Summ where
 code:=.call (.ref 313) ⟨[.ref S],[]⟩
 need:=[(169,tab 110 19 none),(176,tab 113 32 none),(286,tab 195 18 none)]
 imm:=[(S,lst xs eps)]
 Res:=LwX
 res:=fun _=>.ok (.ret (.bool true))
 upd:=fun x=>[tab 110 19 (some x.b1),tab 113 32 (some x.b2),tab 195 18 (some x.b3)]
 d:=300
 u:=600
 fr:=some []
structure LwR where
 F:Nat
 it:Nat
 T:Nat
 P1:Nat
 P2:Nat
 S:Nat
 c:Nat
 a:Nat
 q:Nat->Nat
 s:Nat
 ts:Nat
 sg:Nat
 tsg:Nat
 wd:Nat
 twd:Nat
 tx:LN
 ttx:Nat
 ins:LN
 tins:Nat
 ba:LN
 tba:Nat
 en:Nat
 ten:Nat
 w1:LN
 tw1:Nat
def lwB (R:LwR) (l:List (Str×Nat×Value)):List (Str×Nat×Value):=("script",R.q 0,.ref R.S)::("cells",R.q 1,.ref R.c)::("numbers",R.q 2,.ref R.a)::("drawn",R.q 3,iv R.s R.ts)::("code",R.q 4,iv R.sg R.tsg)::("width",R.q 5,iv R.wd R.twd)::("signs",R.q 6,.str (st R.tx) R.ttx)::("inside",R.q 7,.str (st R.ins) R.tins)::("bare",R.q 8,.str (st R.ba) R.tba)::("ends",R.q 9,iv R.en R.ten)::l
def lwF (w:World) (R:LwR):Obj:=frameO w (lwB R []) 10
noncomputable def lwI (T i:Nat):Obj:={cls:=.type "tuple_iterator",data:=.fields #[.ref T,.int (Int.ofNat i) 0]}
def lwIm (R:LwR) (ns:List Num):Led:=(R.T,tup [.ref R.P1,.ref R.P2])::(R.P1,tup [.str (st R.w1) R.tw1,.bool true])::(R.P2,tup [.str (st R.ba) R.tba,.bool false])::(R.a,lst (numVs ns) 0)::numLed ns
structure LtX where
 fo:Obj
 io:Obj
 b1:Nat
 b2:Nat
 b3:Nat
def sLw1 (w:World) (R:LwR) (ns:List Num):Summ where
 code:=loopC (stLw w) (.ref R.it) (fnEnv w 313 R.F [])
 need:=[(R.F,lwF w R),(R.it,lwI R.T 0),(169,tab 110 19 none),(176,tab 113 32 none),(286,tab 195 18 none)]
 imm:=lwIm R ns
 Res:=LtX
 res:=fun _=>.ok .next
 upd:=fun x=>[x.fo,x.io,tab 110 19 (some x.b1),tab 113 32 (some x.b2),tab 195 18 (some x.b3)]
 d:=250
 u:=500
 fr:=some [fnEnv w 313 R.F []]
theorem said:PySem.Challenge.rw_ty0037_01.wellSaid=true:=by decide +kernel
theorem intsAre_svs:∀{vs:LV} {ns:List Int},IntsAre vs ns->∃l:List (Int×Nat),vs=svs l/\l.length=ns.length
 | _,_,.nil=>⟨[],rfl,rfl⟩
 | _,_,.cons n t h=>by
  obtain ⟨l,h1,h2⟩:=intsAre_svs h
  exact ⟨(n,t)::l,by rw [h1];rfl,by simp [h2]⟩
def baseB (h:Str->Int):Bool:=(List.range 314).all fun a=>Bs.as.contains a|| match (Bs.all h).get a with
 | some o=>o.isFreed
 | none=>true
theorem baseB_true (h:Str->Int):baseB h=true:=by kernel_rfl
theorem mask_lt {a:Nat} (h:Nat.testBit mask a=true):a<314:=by
 rcases Nat.lt_or_ge a 314 with q | q
 ·exact q
 ·have:mask<2^a:=Nat.lt_of_lt_of_le (show mask<2^314 by decide +kernel) (Nat.pow_le_pow_right (by decide) q)
  rw [Nat.testBit_lt_two_pow this] at h;cases h
theorem base_of {w:World} {s₀:Shared} {h:Heap} (Y:Bs.as.map s₀.heap.get?=Bs.as.map (Bs.all (PyData.keyHash w.params)).get) (hs:s₀.heap.objs.size=314) (hz:314<=h.objs.size) (hk:∀b o,s₀.heap.get? b=some o->h.get? b=some o):BaseOk mask w h:=by
 have get:∀a o,Nat.testBit mask a=true->(tb w).get a=some o->o.isFreed=false->h.get? a=some o:=fun a o hm ht hf=>by
  unfold tb at ht
  rw [←PySem.W.ZFast.ze15500001179271910561] at ht
  have c:=List.all_eq_true.mp (baseB_true (PyData.keyHash w.params)) a (List.mem_range.mpr (mask_lt hm))
  rw [ht] at c
  simp only [hf,Bool.or_false] at c
  have e:=List.map_inj_left.mp Y a (by simpa using c)
  exact hk a o (e.trans ht)
 exact ⟨get,fun a hm=>Nat.lt_of_lt_of_le (mask_lt hm) hz,noLimit_of (get cStatics (Bs.o2 (PySem.W.ZFast.zw15500001179271910561 w.params)) (by decide +kernel) (by kernel_rfl) rfl) (by kernel_rfl),by decide +kernel⟩
theorem law313 (h:Str->Int):∃es ep,(Bs.o3 h).data=.dict es ep/\nsFind es "law"=some (.ref 313):=⟨_,_,rfl,by kernel_rfl⟩
theorem find_law {h:Heap} {hf:Str->Int} {mg:Str->Option Value} (h3:h.get? 3=some (Bs.o3 hf)) (T:h.Ns 3 mg):mg "law"=some (.ref 313):=by
 obtain ⟨o,es,ep,g1,g2,_,g3⟩:=T
 obtain ⟨es',ep',d1,d2⟩:=law313 hf
 have q:Bs.o3 hf=o:=Option.some.inj (h3.symm.trans g1)
 have e:Data.dict es ep=Data.dict es' ep':=g2.symm.trans (q▸d1)
 injection e with e1 _
 subst e1
 exact (g3 "law").symm.trans d2
theorem room0 {xs:LV}:RoomOk callerA (sLaw 314 xs 0):=⟨rfl,by show callerA.depth+300<recursionLimit;decide +kernel,by show callerA.units+600<cLine;decide +kernel,fun _ h=>(nomatch h),⟨[],rfl⟩,fun l h=>by cases h;rfl⟩
theorem lenF {a b:Nat} (h:a=b) (hc:¬(((63:Nat):Int)<(b:Int))):a<=1000:=by lia
theorem at_ {w:World} {h₀ h:Heap} (Y:Bs.as.map h₀.get?=Bs.as.map (Bs.all (PyData.keyHash w.params)).get) (hk:∀b o,h₀.get? b=some o->h.get? b=some o) {a:Nat} {o:Obj} (ha:a∈Bs.as) (e:(Bs.all (PyData.keyHash w.params)).get a=some o):h.get? a=some o:=hk a o ((List.map_inj_left.mp Y a ha).trans e)
section
variable {w:World} {h₀:Heap} {s₁ s':Shared} {xs:LV} (Y:Bs.as.map h₀.get?=Bs.as.map (Bs.all (PyData.keyHash w.params)).get) (hk:∀b o,h₀.get? b=some o->s₁.heap.get? b=some o)
include Y hk
theorem tabs0:∀p∈(sLaw 314 xs 0).need,s₁.heap.get? p.1=some p.2:=fa (at_ Y hk (by decide) (by kernel_rfl)) (fa (at_ Y hk (by decide) (by kernel_rfl)) (fa (at_ Y hk (by decide) (by kernel_rfl)) fa0))
omit Y hk in
theorem tab0 {l c:Int} {b a i:Nat} {o1:Obj} {vs:Array Value} (h1:s₁.heap.get? a=some (tab l c none)) (hc:s₁.heap.get? i=some o1) (c1:o1.cls=.type "code") (c2:o1.data=.fields vs) (c3:vs[11]? =some (.ref a)) (h2:s'.heap.get? a=some (tab l c (some b))) {o:Obj} (e:s₁.heap.get? a=some o):asItWas s₁.heap s'.heap a o/\∃o',s'.heap.get? a=some o':=by
 have q:=h1.symm.trans e
 injection q with q
 subst q
 exact ⟨.inr (.inl ⟨⟨i,o1,vs,hc,c1,c2,c3⟩,rfl,#[],#[.int l 0,.int c 0,.ref b],rfl,h2⟩),_,h2⟩
theorem oldK0 {x:LwX} (O:Out s₁ s' ((sLaw 314 xs 0).need.map (·.1)) (rezip (sLaw 314 xs 0).need ((sLaw 314 xs 0).upd x)) [] []):OldK s₁.heap s'.heap:=by
 have key:∀b o,s₁.heap.get? b=some o->asItWas s₁.heap s'.heap b o/\∃o',s'.heap.get? b=some o':=fun b o e=>by
  by_cases h1:b=169
  ·subst h1;exact tab0 (at_ Y hk (by decide) (by kernel_rfl)) (at_ Y hk (a:=173) (o:=Bs.o173) (by decide) (by kernel_rfl)) rfl rfl rfl (O.gv _ (.head _)) e
  by_cases h2:b=176
  ·subst h2;exact tab0 (at_ Y hk (by decide) (by kernel_rfl)) (at_ Y hk (a:=180) (o:=Bs.o180) (by decide) (by kernel_rfl)) rfl rfl rfl (O.gv _ (.tail _ (.head _))) e
  by_cases h3:b=286
  ·subst h3;exact tab0 (at_ Y hk (by decide) (by kernel_rfl)) (at_ Y hk (a:=288) (o:=Bs.o288) (by decide) (by kernel_rfl)) rfl rfl rfl (O.gv _ (.tail _ (.tail _ (.head _)))) e
  have k:=O.keep b o e (by show b∉[169,176,286];simp [h1,h2,h3])
  exact ⟨.inl k,o,k⟩
 exact ⟨fun b o e=>(key b o e).1,fun b o e=>(key b o e).2⟩
end
theorem imm0 {s₁:Shared} {xs:LV} (h:s₁.heap.get? 314=some (lst xs 0)):∀p∈(sLaw 314 xs 0).imm,s₁.heap.get? p.1=some p.2/\p.1∉(sLaw 314 xs 0).need.map (·.1):=fa ⟨h,by show 314∉[169,176,286];decide⟩ fa0
theorem msk0 {xs:LV}:∀p∈(sLaw 314 xs 0).need,Nat.testBit mask p.1=false:=fun p hp=>by
 rcases iC hp with rfl | hp
 ·decide +kernel
 rcases iC hp with rfl | hp
 ·decide +kernel
 rcases iC hp with rfl | hp
 ·decide +kernel
 ·cases hp
theorem bare0:AllBare #[]:=fun _ h=>by simp at h
theorem nd0 {xs:LV}:((sLaw 314 xs 0).need.map (·.1)).Nodup:=by show [169,176,286].Nodup;decide
theorem post0 (ns:List Int):PySem.Challenge.rw_ty0037_01.row.claim.post [ofPy (PyData.list (ns.map PyData.int))] (.bool true) [ofPy (PyData.list (ns.map PyData.int))]=true:=by kernel_rfl
theorem ok0:(chainsOk vw&&opensWell rowL.prog&&(frees rowL.toRowW&&rowL.within.isEmpty))=true:=by decide +kernel
theorem bare_:rowL.prog.bare:=⟨rfl,rfl,rfl,rfl,rfl,by decide +kernel⟩
theorem prom:rowL.toRowW.promised:=by w_witness2
theorem law_call (V:∀(w:World) (S:Nat) (l:List (Int×Nat)) (eps:Nat),l.length<=1000->Vd w (sLaw S (svs l) eps)) {w:World} {h₀:Heap} {s₁:Shared} {l:List (Int×Nat)} {ns:List Int} {cl:Str->Option Addr} {mean:ExcName->Option Value}
  (Y:Bs.as.map h₀.get?=Bs.as.map (Bs.all (PyData.keyHash w.params)).get) (hk:∀b o,h₀.get? b=some o->s₁.heap.get? b=some o) (B:BaseOk mask w s₁.heap) (hl:l.length<=1000) (ho:s₁.heap.get? 314=some (lst (svs l) 0)) (hg:s₁.gens= #[]):
  wpAny (model pw w) callerA (PySem.call (.ref 313) [.ref 314]) (fun v s'=>GoodWG rowL.toRowW.claim cl mean [ofPy (PyData.list (ns.map PyData.int))] s₁ (.ok (.ret v)) s') (fun e s'=>GoodWG rowL.toRowW.claim cl mean [ofPy (PyData.list (ns.map PyData.int))] s₁ (.error e) s') s₁:=
 enter_call (codeAny_mono (V w 314 l 0 hl callerA s₁ (room0) B (tabs0 Y hk) (imm0 ho) nd0 msk0 (fun _ h=>nomatch h)) fun r s' hr'=>by
  obtain ⟨x,-,rfl,-,O⟩:=hr'
  exact ⟨.inl ⟨.bool true,.bool true,[],rfl,fun cls=>rfl,.bool true,post0 ns,fun _=>⟨List.nodup_nil,fun _ h=>(nomatch h)⟩⟩,oldK0 Y hk O,O.os,O.bare (by rw [hg];exact bare0)⟩)
theorem fin (V:∀(w:World) (S:Nat) (l:List (Int×Nat)) (eps:Nat),l.length<=1000->Vd w (sLaw S (svs l) eps)):PySem.Challenge.rw_ty0037_01.Holds:=by
 refine holds_law said fun said'=>?_
 refine holds_openX (q:=vw) (loose:=lseL) (Xt:=fun s=>xlAt vw [] s&&recOk (RowW.records rowL.toRowW) s) (XP:=XL vw []) (Yf:=fun s=>(s.heap.objs.size,Bs.as.map s.heap.get?)) (Ya:=fun w=>(314,Bs.as.map (Bs.all (PyData.keyHash w.params)).get)) (N:=3744) law_left
  (fun s e=>xl_of s (Bool.and_eq_true_iff.mp e).1) XL.keeps (by rfl) (by rfl) (by rfl) (fun s e=>recFacts_of (Bool.and_eq_true_iff.mp e).2) (by rfl) said' ok0 bare_ prom ?_
 ·intro w s₀ s₁ mg mb G Y fa o pm cd doc dV kV ho hd hcd hD hmg hg args vals ads L hpre hlay hrd hwl hlo
  have Y1:s₀.heap.objs.size=314:=congrArg Prod.fst Y
  have Y2:Bs.as.map s₀.heap.get?=Bs.as.map (Bs.all (PyData.keyHash w.params)).get:=congrArg Prod.snd Y
  have T:=G.T.g
  clear Y ho hd hcd hD
  wrow_args hpre hlay hrd hwl hlo
  rename_i ns hs hlay0 hL1 hr1 hl2 as1 as2 S vs as3 hL ra w1 r0 hI hr hc1 hc2
  obtain ⟨l,rfl,hl⟩:=intsAre_svs hI
  obtain ⟨hat,hsz⟩:=script_at L
  have hobj:=script_obj L hL
  rw [Y1] at hat hsz
  subst hat
  have B:BaseOk mask w s₁.heap:=base_of Y2 Y1 (by rw [hsz];decide) L.keeps
  have h3:s₁.heap.get? 3=some (Bs.o3 (PyData.keyHash w.params)):=at_ Y2 L.keeps (by decide) (by kernel_rfl)
  have efa:=hmg.symm.trans (find_law h3 T)
  injection efa with efa
  injection efa with efa
  subst efa
  exact law_call V Y2 L.keeps B (lenF hl hc1) hobj hg
def lwJ (ns:List Num) (x:DeX) (y:EmX):Led:=numLed ns++((wdLed x.words++numLed x.nums)++wdLed y.ws)
structure LgR where
 q:Nat->Nat
 pa:Nat
 du:Nat
 wo:Nat
 n:Int
 tn:Nat
 sl:Array (Option Value)
 b1:Nat
 b2:Nat
 cd:Nat
 v:Value
 qc:Nat
 r:LV
def lwG0 (w:World) (R:LwR) (M:LgR):Obj:=frameO w (lwB R [("written",M.q 0,.str (st R.w1) R.tw1),("quoted",M.q 1,.bool true),("parted",M.q 2,.ref M.pa),("due",M.q 3,.ref M.du),("words",M.q 4,.ref M.wo),("lineno",M.q 5,.int M.n M.tn)]) 16
def sLw2 (w:World) (R:LwR) (ns:List Num) (M:LgR):Summ where
 code:=loopC (stLw w) (.ref R.it) (fnEnv w 313 R.F [])
 need:=[(R.F,slt (lwG0 w R M) M.sl),(R.it,lwI R.T 1),(169,tab 110 19 (some M.b1)),(176,tab 113 32 (some M.b2)),(286,tab 195 18 (some M.cd)),(M.cd,codeO M.v M.qc M.r)]
 imm:=lwIm R ns
 Res:=LtX
 res:=fun _=>.ok .next
 upd:=fun x=>[x.fo,x.io,tab 110 19 (some x.b1),tab 113 32 (some x.b2),tab 195 18 (some x.b3),codeO M.v M.qc M.r]
 d:=250
 u:=500
 fr:=some [fnEnv w 313 R.F []]
noncomputable def lwM (t0 t1 t2 t10:Nat):Nat->Nat
 | 0=>t0
 | 1=>t0+1
 | 2=>t1
 | 3=>t2
 | 4=>t10
 | _=>t10+1
def lwH (w:World) (R:LwR) (M:LgR) (pa du wo:Nat) (n:Int) (tn:Nat):Obj:=slt (frameO w (lwB R [("written",M.q 0,.str (st R.ba) R.tba),("quoted",M.q 1,.bool false),("parted",M.q 2,.ref pa),("due",M.q 3,.ref du),("words",M.q 4,.ref wo),("lineno",M.q 5,.int n tn)]) 16) M.sl
def p2 (x:Nat×List (Nat×Nat)×Nat):Nat×List Num->Prop:=daPost (x.2.1.map (·.1))
noncomputable def l8 {α:Type} (z:α) (D:List α):List α:=[D.getD 0 z,D.getD 1 z,D.getD 2 z,D.getD 3 z,D.getD 4 z,D.getD 5 z,D.getD 6 z,D.getD 7 z]
theorem l8_of {α:Type} (z:α):∀(D:List α),D.length<=8->D++List.replicate (8-D.length) z=l8 z D
 | [],_=>rfl
 | [_],_=>rfl
 | [_,_],_=>rfl
 | [_,_,_],_=>rfl
 | [_,_,_,_],_=>rfl
 | [_,_,_,_,_],_=>rfl
 | [_,_,_,_,_,_],_=>rfl
 | [_,_,_,_,_,_,_],_=>rfl
 | [_,_,_,_,_,_,_,_],_=>rfl
 | _::_::_::_::_::_::_::_::_::_,h=>by simp only [List.length_cons] at h;lia
structure LwOk (cs:LN) (R:LwR) (ns:List Num):Prop where
 six:cs.length=6
 val:ns.map Num.val=drawnAll cs
 sg:R.sg=32\/R.sg=9
 w1:R.w1=txT true (drawnAll cs)
 ba:R.ba=txT false (drawnAll cs)
 en:R.en=ends10 (drawnAll cs)
section
variable (q:Bool) (cs:LN) (R:LwR)
def lwD:List (List LN):=dueOf q R.sg R.wd (drawnAll cs)
def lwW:Nat->LN:=fun i=>((lwD q cs R).map signs).getD i []
theorem lwW_at (i:Nat):lwW q cs R i=signs ((lwD q cs R).getD i []):=by
 unfold lwW
 rw [List.getD_eq_getElem?_getD,List.getD_eq_getElem?_getD,List.getElem?_map]
 cases (lwD q cs R)[i]? <;>rfl
end
theorem wdVs_app (a b:List Wd):wdVs a++([]++wdVs b)=wdVs (a++b):=by unfold wdVs;rw [List.map_append];rfl
section
variable {cs:LN} {R:LwR} {ns:List Num} (H:LwOk cs R ns) {q:Bool} {x1:PdX} {x2:DeX} {x6:EmX} (h1:pdPost q R.sg R.wd (drawnAll cs) x1) (h2:DePost q R.sg (x1.us.map Prod.fst) (numLed ns) (drawnAll cs) x2) (h6:emPost (7-(lwD q cs R).length+1) x6)
include H
theorem LwOk.seven:(drawnAll cs).length=7:=by simp [drawnAll,H.six]
theorem LwOk.cons:∃n r,ns=n::r:=by
 cases ns with
 | nil=>have:=H.val;have e:=H.seven;rw [←this] at e;cases e
 | cons n r=>exact ⟨n,r,rfl⟩
theorem LwOk.good:∀d∈lwD q cs R,(∀n∈d,NG3 n)/\d.length<=14:=fun d hd=>by
 have a:=due_ok q R.sg (partedOf q R.sg R.wd (drawnAll cs)) H.sg (drawnAll cs) 0 (drawnAll_ok cs)
 have b:=due_len q R.sg (partedOf q R.sg R.wd (drawnAll cs)) (drawnAll cs) 0
 rw [H.seven] at b
 rcases iC hd with rfl | hd
 ·exact ⟨a.1,b.1⟩
 ·exact ⟨a.2 d hd,b.2.1 d hd⟩
theorem LwOk.few:1<=(lwD q cs R).length/\(lwD q cs R).length<=7:=⟨by simp [lwD,dueOf],(page_reads q R.sg R.wd H.sg cs H.six).2.1⟩
theorem LwOk.getD (i:Nat):(∀n∈(lwD q cs R).getD i [],NG3 n)/\((lwD q cs R).getD i []).length<=14:=by
 rw [List.getD_eq_getElem?_getD]
 cases h:(lwD q cs R)[i]? with
 | none=>exact ⟨fun _ h=>(nomatch h),Nat.zero_le _⟩
 | some d=>exact H.good d (List.mem_of_getElem? h)
theorem LwOk.parted {w:World} (a e tsg wd twd:Nat) (q:Bool):Vd w (sParted a (numVs ns) e (numLed ns) R.sg tsg wd twd q (pdPost q R.sg wd (drawnAll cs))):=by
 have g:=drawnAll_ok cs
 have l:=H.seven
 rw [←H.val] at g l ⊢
 rw [List.length_map] at l
 obtain ⟨n,r,rfl⟩:=H.cons
 exact sParted_valid w a e R.sg tsg wd twd q n r H.sg (by lia) fun m hm=>g _ (List.mem_map_of_mem hm)
theorem LwOk.due {w:World} (a e tsg pd:Nat) (us:List (Nat×Nat)) (epd:Nat) (q:Bool):Vd w (sDue a (numVs ns) e (numLed ns) R.sg tsg pd us epd q (DePost q R.sg (us.map Prod.fst) (numLed ns) (drawnAll cs))):=by
 have g:=drawnAll_ok cs
 have l:=H.seven
 rw [←H.val] at g l ⊢
 rw [List.length_map] at l
 obtain ⟨n,r,rfl⟩:=H.cons
 exact sDue_valid w a e R.sg tsg pd us epd q n r (by lia) fun m hm=>g _ (List.mem_map_of_mem hm)
theorem LwOk.few1:(partedOf q R.sg R.wd (drawnAll cs)).length<=7:=by
 have:=(cnt_parted q R.sg R.wd (drawnAll cs)).1
 have le:∀(P:LN) (l:List LN) (k:Nat),cntP P k l<=l.length:=by
  intro P l
  induction l with
  | nil=>intro k;exact Nat.le_refl _
  | cons n l ih=>intro k;rw [cntP_cons,List.length_cons];have:=ih (k+1);split <;>lia
 have:=le (partedOf q R.sg R.wd (drawnAll cs)) (drawnAll cs) 0
 have:=H.seven
 lia
theorem LwOk.lt:R.sg<1000:=by rcases H.sg with e | e <;>rw [e] <;>decide
theorem LwOk.rw_ok (i t:Nat):RwOk ⟨lwW q cs R i,t,(lwD q cs R).getD i []⟩:=by
 have g:=H.getD (q:=q) i
 have s:=signs_lt g.1
 have e:=lwW_at q cs R i
 refine ⟨?_,?_,fun n hn=>numOk_of (g.1 n hn),?_,?_⟩
 ·show (lwW q cs R i).length<=1000;rw [e];lia
 ·show lwW q cs R i=_;rw [e];rfl
 ·show _<=(lwW q cs R i).length;rw [e];exact s.2.1
 ·show ∀c∈lwW q cs R i,c<128;rw [e];exact s.1
include h1 h2
theorem LwOk.words:x2.words.map Wd.val=lwD q cs R:=by
 have a:=h2.words
 rw [show x1.us.map Prod.fst=partedOf q R.sg R.wd (drawnAll cs) from h1] at a
 exact a
theorem LwOk.dlen:(wdVs x2.words).length=(lwD q cs R).length:=by rw [←H.words h1 h2];simp [wdVs]
include h6
theorem LwOk.all8:(x2.words++x6.ws).map Wd.val=l8 [] (lwD q cs R):=by
 rw [List.map_append,H.words h1 h2,←l8_of [] (lwD q cs R) (by have:=(H.few (q:=q)).2;exact leT ‹_› rfl)]
 congr 1
 refine List.eq_replicate_iff.mpr ⟨by rw [List.length_map,h6.1];have:=(H.few (q:=q)).2;lia,fun b hb=>?_⟩
 obtain ⟨y,hy,rfl⟩:=List.mem_map.mp hb
 unfold Wd.val;rw [h6.2 y hy];rfl
theorem LwOk.wsOk:WsOk (lwJ ns x2 x6) (x2.words++x6.ws):=by
 have hw:=H.words h1 h2
 have hD:∀y∈x2.words++x6.ws,(∀n∈y.val,NG3 n)/\y.val.length<=14:=fun y hy=>by
  rcases iA hy with hy | hy
  ·exact H.good (q:=q) y.val (by rw [←hw];exact List.mem_map_of_mem hy)
  ·have:y.val=[]:=by unfold Wd.val;rw [h6.2 y hy];rfl
   rw [this];exact ⟨fun _ h=>(nomatch h),Nat.zero_le _⟩
 refine ⟨fun y hy=>?_,fun y hy m hm=>?_,fun y hy m hm=>(hD y hy).1 _ (List.mem_map_of_mem hm),fun y hy=>?_⟩
 ·rcases iA hy with hy | hy
  ·exact iR (iL (iL (List.mem_map_of_mem hy)))
  ·exact iR (iR (List.mem_map_of_mem hy))
 ·rcases iA hy with hy | hy
  ·rcases h2.inn y hy m hm with h | h
   ·exact iL h
   ·exact iR (iL (iR (List.mem_map_of_mem h)))
  ·rw [h6.2 y hy] at hm;cases hm
 ·have:=(hD y hy).2
  unfold Wd.val at this;rw [List.length_map] at this;exact leT ‹_› rfl
theorem LwOk.alen:(wdVs x2.words).length+([]++wdVs x6.ws).length<=100000:=by
 have a:=H.dlen h1 h2
 have:=(H.few (q:=q)).2
 have e:([]++wdVs x6.ws).length=x6.ws.length:=by simp [wdVs]
 rw [a,e,h6.1];lia
theorem LwOk.wcons:∃y r,x2.words++x6.ws=y::r/\(y::r).length<=1000/\(y::r).map Wd.val=l8 [] (lwD q cs R):=by
 have a:=H.all8 h1 h2 h6
 cases e:x2.words++x6.ws with
 | nil=>rw [e] at a;cases a
 | cons y r=>
  rw [e] at a
  refine ⟨y,r,rfl,?_,a⟩
  have:=congrArg List.length a
  rw [List.length_map] at this
  rw [this];show 8<=1000;decide
omit h1 h2 h6
section
variable {w:World} (F it acc d a epa:Nat)
theorem lwSw (h1:pdPost q R.sg R.wd (drawnAll cs) x1) (h2:DePost q R.sg (x1.us.map Prod.fst) (numLed ns) (drawnAll cs) x2) (h6:emPost (7-(lwD q cs R).length+1) x6):
  Vd w (sI (sSw w F it acc d a (wdVs x2.words++([]++wdVs x6.ws)) epa (lwJ ns x2 x6) 0 (dictO w [] 0) [] 0 (swPost (l8 [] (lwD q cs R)))) a (lst (wdVs x2.words++([]++wdVs x6.ws)) epa) (lwJ ns x2 x6)):=by
 refine sI_valid rfl ?_
 have W:=H.wsOk h1 h2 h6
 obtain ⟨y,r,e,hl,hv⟩:=H.wcons h1 h2 h6
 rw [wdVs_app,e,←hv]
 rw [e] at W
 exact sSw1_valid F it acc d a epa y r hl W w 0
theorem lwWo (h1:pdPost q R.sg R.wd (drawnAll cs) x1) (h2:DePost q R.sg (x1.us.map Prod.fst) (numLed ns) (drawnAll cs) x2) (h6:emPost (7-(lwD q cs R).length+1) x6):
  Vd w (sWo w F it acc d a (wdVs x2.words++([]++wdVs x6.ws)) epa (lwJ ns x2 x6) 0 (dictO w [] 0) [] 0 (woPost (l8 [] (lwD q cs R)))):=by
 have W:=H.wsOk h1 h2 h6
 obtain ⟨y,r,e,hl,hv⟩:=H.wcons h1 h2 h6
 rw [wdVs_app,e,←hv]
 rw [e] at W
 exact sWo1_valid F it acc d a epa y r hl W w 0
theorem lwNw (fo:Obj) {es:Array DictEntry} {ed:Nat} (hd:fo.data=.dict es ed) (tk:Nat->Nat):
  Vd w (sNw w F it acc d a (wordVs (lwW q cs R) tk) epa 0 fo (dictO w [] 0) [] 0 (nwPost (l8 [] (lwD q cs R)))):=by
 let z:=fun i=>(⟨lwW q cs R i,tk i,(lwD q cs R).getD i []⟩:Rw)
 refine sNw1_valid F it acc d a epa fo hd (z 0) [z 1,z 2,z 3,z 4,z 5,z 6,z 7] (by show 8<=1000;decide) (fun y hy=>?_) w 0
 simp only [List.mem_cons,List.not_mem_nil,or_false] at hy
 rcases hy with rfl | rfl | rfl | rfl | rfl | rfl | rfl | rfl <;>exact H.rw_ok _ _
end
omit H
theorem lwNeS {w:World} {x:SwX} {a b:Nat} {tk:Nat->Nat} {e1 e2:Nat} (h:swPost (l8 [] (lwD q cs R)) x):Vd w (sNeL a b (wordVs (lwW q cs R) tk) ([]++lineVs x.ss) e1 e2 []):=by
 refine sNeStr_valid a b [(lwW q cs R 0,tk 0),(lwW q cs R 1,tk 1),(lwW q cs R 2,tk 2),(lwW q cs R 3,tk 3),(lwW q cs R 4,tk 4),(lwW q cs R 5,tk 5),(lwW q cs R 6,tk 6),(lwW q cs R 7,tk 7)] x.ss e1 e2 ?_
 rw [show x.ss.map (·.1)=_ from h]
 simp only [List.map_cons,List.map_nil,lwW_at,l8]
theorem lwNeN {w:World} {x:NwX} {y:WoX} {a b e1 e2:Nat} (h1:nwPost (l8 [] (lwD q cs R)) x) (h2:woPost (l8 [] (lwD q cs R)) y):Vd w (sNeL a b ([]++numVs x.ns) ([]++numVs y.ns) e1 e2 (numLed x.ns++numLed y.ns)):=
 sNeNum_valid a b x.ns y.ns e1 e2 ((show _=_ from h1).trans (show _=_ from h2).symm)
end
theorem lw_ro {R:LwR} {ns:List Num}:∀p∈[(R.T,tup [.ref R.P1,.ref R.P2]),(R.P1,tup [.str (st R.w1) R.tw1,.bool true]),(R.P2,tup [.str (st R.ba) R.tba,.bool false])],p∈lwIm R ns:=fun p hp=>by
 simp only [List.mem_cons,List.not_mem_nil,or_false] at hp
 rcases hp with rfl | rfl | rfl
 ·exact .head _
 ·exact .tail _ (.head _)
 ·exact .tail _ (.tail _ (.head _))
theorem lw_due {R:LwR} {ns:List Num} {a:Nat} {o:Obj} {bag:Led}:∀p∈(R.a,lst (numVs ns) 0)::(a,o)::numLed ns,p∈lwIm R ns\/p∈bag++[(a,o)]:=fun p hp=>by
 rcases iC hp with rfl | hp
 ·exact .inl (.tail _ (.tail _ (.tail _ (.head _))))
 rcases iC hp with rfl | hp
 ·exact .inr (iR (.head _))
 ·exact .inl (.tail _ (.tail _ (.tail _ (.tail _ hp))))
theorem lwJ_in {ns:List Num} {x:DeX} {y:EmX} {i0 b:Led} (h0:∀p∈numLed ns,p∈i0) (h1:∀p∈wdLed x.words++numLed x.nums,p∈b) (h2:∀p∈wdLed y.ws,p∈b):∀p∈lwJ ns x y,p∈i0\/p∈b:=fun p hp=>by
 rcases iA hp with hp | hp
 ·exact .inl (h0 p hp)
 rcases iA hp with hp | hp
 ·exact .inr (h1 p hp)
 ·exact .inr (h2 p hp)
theorem lw_len1 {q:Bool} {sg wd:Nat} {dr:List LN} {x:PdX} (h:pdPost q sg wd dr x):(ivs x.us).length=(partedOf q sg wd dr).length:=by
 rw [←show x.us.map (·.1)=_ from h];simp [ivs]
theorem lw_page {w:World} {cs:LN} {R:LwR} {ns:List Num} (H:LwOk cs R ns) {q:Bool} {T:LN} (hT:T=txT q (drawnAll cs)) {ta tw ts:Nat} {tb1 tb2:ON}:Vd w (sPage T ta (Int.ofNat R.wd) tw R.sg ts tb1 tb2 (pageN q R.sg R.wd (drawnAll cs))):=by
 rw [hT];exact page_valid w q cs H.six ta R.wd tw R.sg ts H.sg tb1 tb2
noncomputable def lwIE:Obj:={cls:=.type "tuple_iterator",data:=.fields #[.none,.int (Int.ofNat 2) 0]}
section
variable (w:World) {R:LwR} {ns:List Num}
theorem sLw2_valid {M:LgR} (cs:LN) (H:LwOk cs R ns):Vd w (sLw2 w R ns M):=by
 obtain ⟨hpl,-,nn,E,hr,hn⟩:=page_reads false R.sg R.wd H.sg cs H.six
 have hf:=(H.few (q:=false)).2
 have hp:=H.few1 (q:=false)
 have hne:(nn 8 !=Int.ofNat (1+(partedOf false R.sg R.wd (drawnAll cs)).length+R.en))=false:=by
  rw [hn,H.en]
  simp only [bne_eq_false_iff_eq,Int.ofNat_eq_natCast,Int.natCast_add]
  lia
 revert w
 refine vTree2 (fun w=>forZ (stLw w) (.ref R.it) (fnEnv w 313 R.F [])) [(R.T,tup [.ref R.P1,.ref R.P2]),(R.P1,tup [.str (st R.w1) R.tw1,.bool true]),(R.P2,tup [.str (st R.ba) R.tba,.bool false])] (fun w=>lw_ro) (fun w=>fun A room=>forZ_le rfl (by show 200<=500;decide) A room) ?_ ?_
 ·exact fun cc w s N0 t0 G_ D_ I_=>
   .uq 0x400018060180600006018060180e0200880808020000200002008022020200800008000080200880808020000200002008002020020280a020240902600024090000900009 (sParted R.a (numVs ns) 0 (numLed ns) R.sg R.tsg R.wd R.twd false (pdPost false R.sg R.wd (drawnAll cs))) [] [] (H.parted _ _ _ _ _ _) (inW D_ (fun p hp=>.inl (.tail _ (.tail _ (.tail _ hp))))) tt fun x1 N1 t1 h1=>
   .use 0x100006018060180001806 (sDue R.a (numVs ns) 0 (numLed ns) R.sg R.tsg x1.a x1.us x1.ep false ((fun (x:PdX)=>DePost false R.sg (x.us.map Prod.fst) (numLed ns) (drawnAll cs)) x1)) [] [] [(1,x1.a,lst (ivs x1.us) x1.ep)] (H.due _ _ _ _ _ _ _) (inW D_ lw_due) fun x2 N2 t2 h2=>
   .u 0x40001800000000000601806 (sI (sLenI x2.W (wdVs x2.words) x2.epW ((lwD false cs R).length)) x2.W (lst (wdVs x2.words) x2.epW) []) [1] [1] (sI_valid rfl (sLenI_valid (H.dlen h1 h2) (by exact leT ‹_› rfl))) tt fun x3 N3 t3=>
   .u 0x400 (sT "int.__sub__" [Value.int (Int.ofNat 8) (t2+1),iv ((lwD false cs R).length) x3] (iv ((7-(lwD false cs R).length)+1))) [] [1] (iSub_valid (by lia)) tt fun x4 N4 t4=>
   .u 0x102000020080200002000020080000000000 (sRangeIter N4 0 (Int.ofNat ((7-(lwD false cs R).length)+1)) 1 t4 x4 (t4+1) (Int.ofNat ((7-(lwD false cs R).length)+1))) [2] [1] (sRangeIter_valid (rsize_up _) (rsmall_up (by lia))) tt fun x5 N5 t5=>
   .use (cond cc 0x10000a 0x102800028000280a0000a) (sEm w R.F x5 N5 (N5+1) 0 ((7-(lwD false cs R).length)+1) (dictO w [] 0) [] 0 (emPost (7-(lwD false cs R).length+1))) [4,2,5] [1,2,5] [] (sEm1_valid (by lia)) (noImm rfl) fun x6 N6 t6 h6=>
   .u 0x101c000280701c0d0340d (sIadd x2.W (wdVs x2.words) x2.epW N5 ([]++wdVs x6.ws) x6.o.ep) [1,4] [1] (sIadd_valid (H.alen h1 h2 h6)) tt fun x7 N7 t7=>
   .u 0x10000600000018060000001806 (sT "chr" [iv R.sg R.tsg] (Value.str (st [R.sg]))) [] [1] (chr_valid H.lt) tt fun x8 N8 t8=>
   .u 0x400 (sPage R.ba R.tba (Int.ofNat R.wd) R.twd R.sg x8 (some M.b1) (some M.b2) (pageN false R.sg R.wd (drawnAll cs))) [6,9] [1] (lw_page H H.ba) tt fun x9 N9 t9=>
   .u 0x400 (sRd2 (pageN false R.sg R.wd (drawnAll cs)) x9.fst (lwW false cs R) (nn 8) M.cd M.v M.qc M.r) [12,15] [1] (sRd2_valid _ nn E hr (by exact leT ‹_› rfl)) tt fun x10 N10 t10=>
   .uq (cond cc 0x100011000070000701c0601806018060180e02008028080200002000020080200a02008000080000802008028080200002000020080000a0000a0280a 0x104400044000441100011000070000701c0601806018060180e02008028080200002000020080200a02008000080000802008028080200002000020080000a0000a0280a) (sI (sSw w R.F (N10+3) (N10+4) (N10+5) x2.W (wdVs x2.words++([]++wdVs x6.ws)) x7 (lwJ ns x2 x6) 0 (dictO w [] 0) [] 0 (swPost (l8 [] (lwD false cs R)))) x2.W (lst (wdVs x2.words++([]++wdVs x6.ws)) x7) (lwJ ns x2 x6)) [1,11,14,17] [1,7,14,17] (lwSw H _ _ _ _ _ _ h1 h2 h6) (inW D_ (lwJ_in (fun p hp=>.tail _ (.tail _ (.tail _ (.tail _ hp)))) (fun p hp=>iL (iL (iL (iR hp)))) (fun p hp=>iL (iR hp)))) tt fun x11 N11 t11 h11=>
   .u 0x1028000280d0281004010 (sNeL x10.W (N10+4) (wordVs (lwW false cs R) x10.tk) ([]++lineVs x11.ss) x10.ep x11.o.ep []) [4,7] [1,4] (lwNeS h11) tt fun x12 N12 t12=>
   .use (cond cc 0x1000080000a0000a02806 0x1020000200002008000080000a0000a02806) (sNw w R.F N12 (N12+1) (N12+2) x10.W (wordVs (lwW false cs R) x10.tk) x10.ep 0 (lwH w R M x1.a x2.W x10.W (nn 8) x10.tn) (dictO w [] 0) [] 0 (nwPost (l8 [] (lwD false cs R)))) [0,2,5,8] [1,5,8] [(4,x10.W,lst (wordVs (lwW false cs R) x10.tk) x10.ep)] (lwNw H _ _ _ _ _ _ _ rfl _) (fun p hp=>.inr (iR hp)) fun x13 N13 t13 h13=>
   .use (cond cc 0x4000200001c0001c070180d0340d 0x4080000800008020000200001c0001c070180d0340d) (sWo w R.F N13 (N13+1) (N13+2) x2.W (wdVs x2.words++([]++wdVs x6.ws)) x7 (lwJ ns x2 x6) 0 (dictO w [] 0) [] 0 (woPost (l8 [] (lwD false cs R)))) [2,5,8] [4,5,8] [(1,x2.W,lst (wdVs x2.words++([]++wdVs x6.ws)) x7)] (lwWo H _ _ _ _ _ _ h1 h2 h6) (inW D_ (fun p hp=>(iC hp).elim (fun e=>.inr (iR (e▸.head _))) (lwJ_in (fun p hp=>.tail _ (.tail _ (.tail _ (.tail _ hp)))) (fun p hp=>iL (iL (iL (iL (iL (iR hp)))))) (fun p hp=>iL (iL (iL (iR hp)))) p))) fun x14 N14 t14 h14=>
   .ui 0x101c0001c0a01c0d0340d (sNeL (N12+1) (N13+1) ([]++numVs x13.ns) ([]++numVs x14.ns) x13.o.ep x14.o.ep (numLed x13.ns++numLed x14.ns)) [1,4] [] (lwNeN h13 h14) (fun p hp=>.inr ((iA hp).elim (fun hp=>iL (iL (iL (iR hp)))) fun hp=>iL (iR hp))) tt fun x15 N15 t15=>
   .ui 0x4000180000006 (sLenI x1.a (ivs x1.us) x1.ep ((partedOf false R.sg R.wd (drawnAll cs)).length)) [] [] (sLenI_valid (lw_len1 h1) (by exact leT ‹_› rfl)) (inW D_ (fun p hp=>List.mem_singleton.mp hp▸.inr (iL (iL (iL (iL (iL (iL (iL (iL (iR (.head _)))))))))))) tt fun x16 N16 t16=>
   piAdd 0x400 1 (t15+0) ((partedOf false R.sg R.wd (drawnAll cs)).length) x16 (1+(partedOf false R.sg R.wd (drawnAll cs)).length) rfl [] fun x17 N17 t17=>
   piAdd 0x100006 (1+(partedOf false R.sg R.wd (drawnAll cs)).length) x17 R.en R.ten (1+(partedOf false R.sg R.wd (drawnAll cs)).length+R.en) rfl [] fun x18 N18 t18=>
   .u 0x400 (sV "int.__ne__" [Value.int (nn 8) x10.tn,iv (1+(partedOf false R.sg R.wd (drawnAll cs)).length+R.en) x18] (Value.bool false)) [] [] (iNe_valid hne) tt fun x19 N19 t19=>
   dn D_ 0x40000b0240980009024000240002400 ((.ok .next)) [(0,R.F,slt (lwH w R M x1.a x2.W x10.W (nn 8) x10.tn) x13.s0),(3,R.it,Obj.mk (Value.type "tuple_iterator") none (Data.fields (Array.mk [Value.none,Value.int (Int.ofNat 2) 0])) (Array.mk [])),(6,169,tab 110 19 (some x9.2.1)),(9,176,tab 113 32 (some x9.2.2)),(12,286,tab 195 18 (some M.cd)),(15,M.cd,codeO M.v M.qc M.r)] [] [] fun s' O=>⟨⟨slt (lwH _ R M x1.a x2.W x10.W (nn 8) x10.tn) x13.s0,lwIE,x9.2.1,x9.2.2,M.cd⟩,trivial,rfl,rfl,O.noGi⟩
 kernel_rfl
theorem sLw1_valid (cs:LN) (H:LwOk cs R ns):Vd w (sLw1 w R ns):=by
 obtain ⟨hpl,-,nn,E,hr,hn⟩:=page_reads true R.sg R.wd H.sg cs H.six
 have hf:=(H.few (q:=true)).2
 have hp:=H.few1 (q:=true)
 have hne:(nn 8 !=Int.ofNat (1+(partedOf true R.sg R.wd (drawnAll cs)).length+R.en))=false:=by
  rw [hn,H.en]
  simp only [bne_eq_false_iff_eq,Int.ofNat_eq_natCast,Int.natCast_add]
  lia
 revert w
 refine vTree2 (fun w=>forZ (stLw w) (.ref R.it) (fnEnv w 313 R.F [])) [(R.T,tup [.ref R.P1,.ref R.P2]),(R.P1,tup [.str (st R.w1) R.tw1,.bool true]),(R.P2,tup [.str (st R.ba) R.tba,.bool false])] (fun w=>lw_ro) (fun w=>fun A room=>forZ_le rfl (by show 200<=500;decide) A room) ?_ ?_
 ·exact fun cc w s N0 t0 G_ D_ I_=>
   .uq 0x400018060180600006018060180e02008804080200002000020080220102008000080000802008804080200002000020080020100201806010240902600024090000900009 (sParted R.a (numVs ns) 0 (numLed ns) R.sg R.tsg R.wd R.twd true (pdPost true R.sg R.wd (drawnAll cs))) [] [] (H.parted _ _ _ _ _ _) (inW D_ (fun p hp=>.inl (.tail _ (.tail _ (.tail _ hp))))) tt fun x1 N1 t1 h1=>
   .use 0x100006018060180001806 (sDue R.a (numVs ns) 0 (numLed ns) R.sg R.tsg x1.a x1.us x1.ep true ((fun (x:PdX)=>DePost true R.sg (x.us.map Prod.fst) (numLed ns) (drawnAll cs)) x1)) [] [] [(1,x1.a,lst (ivs x1.us) x1.ep)] (H.due _ _ _ _ _ _ _) (inW D_ lw_due) fun x2 N2 t2 h2=>
   .u 0x40001800000000000601806 (sI (sLenI x2.W (wdVs x2.words) x2.epW ((lwD true cs R).length)) x2.W (lst (wdVs x2.words) x2.epW) []) [1] [1] (sI_valid rfl (sLenI_valid (H.dlen h1 h2) (by exact leT ‹_› rfl))) tt fun x3 N3 t3=>
   .u 0x400 (sT "int.__sub__" [Value.int (Int.ofNat 8) (t2+1),iv ((lwD true cs R).length) x3] (iv ((7-(lwD true cs R).length)+1))) [] [1] (iSub_valid (by lia)) tt fun x4 N4 t4=>
   .u 0x102000020080200002000020080000000000 (sRangeIter N4 0 (Int.ofNat ((7-(lwD true cs R).length)+1)) 1 t4 x4 (t4+1) (Int.ofNat ((7-(lwD true cs R).length)+1))) [2] [1] (sRangeIter_valid (rsize_up _) (rsmall_up (by lia))) tt fun x5 N5 t5=>
   .use (cond cc 0x10000a 0x102800028000280a0000a) (sEm w R.F x5 N5 (N5+1) 0 ((7-(lwD true cs R).length)+1) (dictO w [] 0) [] 0 (emPost (7-(lwD true cs R).length+1))) [4,2,5] [1,2,5] [] (sEm1_valid (by lia)) (noImm rfl) fun x6 N6 t6 h6=>
   .u 0x101c000280701c0d0340d (sIadd x2.W (wdVs x2.words) x2.epW N5 ([]++wdVs x6.ws) x6.o.ep) [1,4] [1] (sIadd_valid (H.alen h1 h2 h6)) tt fun x7 N7 t7=>
   .u 0x10000600000018060000001806 (sT "chr" [iv R.sg R.tsg] (Value.str (st [R.sg]))) [] [1] (chr_valid H.lt) tt fun x8 N8 t8=>
   .u 0x400 (sPage R.w1 R.tw1 (Int.ofNat R.wd) R.twd R.sg x8 none none (pageN true R.sg R.wd (drawnAll cs))) [6,9] [1] (lw_page H H.w1) tt fun x9 N9 t9=>
   .u 0x400 (sRd1 (pageN true R.sg R.wd (drawnAll cs)) x9.fst (lwW true cs R) (nn 8)) [12] [1] (sRd1_valid _ nn E hr (by exact leT ‹_› rfl)) tt fun x10 N10 t10=>
   .uq (cond cc 0x100011000070000701c0601806018060180e02008028080200002000020080200a02008000080000802008028080200002000020080000a0000a0280a 0x104400044000441100011000070000701c0601806018060180e02008028080200002000020080200a02008000080000802008028080200002000020080000a0000a0280a) (sI (sSw w R.F (N10+3) (N10+4) (N10+5) x2.W (wdVs x2.words++([]++wdVs x6.ws)) x7 (lwJ ns x2 x6) 0 (dictO w [] 0) [] 0 (swPost (l8 [] (lwD true cs R)))) x2.W (lst (wdVs x2.words++([]++wdVs x6.ws)) x7) (lwJ ns x2 x6)) [1,11,14,17] [1,7,10,14,17] (lwSw H _ _ _ _ _ _ h1 h2 h6) (inW D_ (lwJ_in (fun p hp=>.tail _ (.tail _ (.tail _ (.tail _ hp)))) (fun p hp=>iL (iL (iL (iR hp)))) (fun p hp=>iL (iR hp)))) tt fun x11 N11 t11 h11=>
   .u 0x102800028100281304c13 (sNeL x10.W (N10+4) (wordVs (lwW true cs R) x10.tk) ([]++lineVs x11.ss) x10.ep x11.o.ep []) [4,10] [1,4,7] (lwNeS h11) tt fun x12 N12 t12=>
   .use (cond cc 0x1000080000a0000a02806 0x1020000200002008000080000a0000a02806) (sNw w R.F N12 (N12+1) (N12+2) x10.W (wordVs (lwW true cs R) x10.tk) x10.ep 0 (lwG0 w R (LgR.mk (lwM t0 t1 t2 t10) x1.a x2.W x10.W (nn 8) x10.tn #[] x9.snd.fst x9.snd.snd x10.cd x10.v x10.q x10.r)) (dictO w [] 0) [] 0 (nwPost (l8 [] (lwD true cs R)))) [0,2,5,8] [1,7,5,8] [(4,x10.W,lst (wordVs (lwW true cs R) x10.tk) x10.ep)] (lwNw H _ _ _ _ _ _ _ rfl _) (fun p hp=>.inr (iR hp)) fun x13 N13 t13 h13=>
   .use (cond cc 0x4000200001c0001c070181004010 0x4080000800008020000200001c0001c070181004010) (sWo w R.F N13 (N13+1) (N13+2) x2.W (wdVs x2.words++([]++wdVs x6.ws)) x7 (lwJ ns x2 x6) 0 (dictO w [] 0) [] 0 (woPost (l8 [] (lwD true cs R)))) [2,5,8] [4,7,5,8] [(1,x2.W,lst (wdVs x2.words++([]++wdVs x6.ws)) x7)] (lwWo H _ _ _ _ _ _ h1 h2 h6) (inW D_ (fun p hp=>(iC hp).elim (fun e=>.inr (iR (e▸.head _))) (lwJ_in (fun p hp=>.tail _ (.tail _ (.tail _ (.tail _ hp)))) (fun p hp=>iL (iL (iL (iL (iL (iR hp)))))) (fun p hp=>iL (iL (iL (iR hp)))) p))) fun x14 N14 t14 h14=>
   .ui 0x1028000280d0281004010 (sNeL (N12+1) (N13+1) ([]++numVs x13.ns) ([]++numVs x14.ns) x13.o.ep x14.o.ep (numLed x13.ns++numLed x14.ns)) [4,7] [1] (lwNeN h13 h14) (fun p hp=>.inr ((iA hp).elim (fun hp=>iL (iL (iL (iR hp)))) fun hp=>iL (iR hp))) tt fun x15 N15 t15=>
   .ui 0x4000180000006 (sLenI x1.a (ivs x1.us) x1.ep ((partedOf true R.sg R.wd (drawnAll cs)).length)) [] [1] (sLenI_valid (lw_len1 h1) (by exact leT ‹_› rfl)) (inW D_ (fun p hp=>List.mem_singleton.mp hp▸.inr (iL (iL (iL (iL (iL (iL (iL (iL (iR (.head _)))))))))))) tt fun x16 N16 t16=>
   piAdd 0x400 1 (t15+0) ((partedOf true R.sg R.wd (drawnAll cs)).length) x16 (1+(partedOf true R.sg R.wd (drawnAll cs)).length) rfl [1] fun x17 N17 t17=>
   piAdd 0x100006 (1+(partedOf true R.sg R.wd (drawnAll cs)).length) x17 R.en R.ten (1+(partedOf true R.sg R.wd (drawnAll cs)).length+R.en) rfl [1] fun x18 N18 t18=>
   .u 0x400 (sV "int.__ne__" [Value.int (nn 8) x10.tn,iv (1+(partedOf true R.sg R.wd (drawnAll cs)).length+R.en) x18] (Value.bool false)) [] [1] (iNe_valid hne) tt fun x19 N19 t19=>
   .ui 0x1 (sLw2 w R ns (LgR.mk (lwM t0 t1 t2 t10) x1.a x2.W x10.W (nn 8) x10.tn x13.s0 x9.snd.fst x9.snd.snd x10.cd x10.v x10.q x10.r)) [0,3,6,9,12,1] [] (sLw2_valid _ cs H) (inJ I_) tt fun x20 N20 t20=>
   endQ D_ 0x4 (⟨x20.fo,x20.io,x20.b1,x20.b2,x20.b3⟩:LtX) [0,3,6,9,12] [] [] fun s' O=>⟨⟨x20.fo,x20.io,x20.b1,x20.b2,x20.b3⟩,trivial,rfl,rfl,O.noGi⟩
 kernel_rfl
end
theorem sum_le {K:Nat}:∀l:List (Nat×Nat),(∀p∈l,p.1<K)->(l.map (·.1)).sum<=l.length*K
 | [],_=>Nat.zero_le _
 | p::l,h=>by
  have:=sum_le l fun q hq=>h q (.tail _ hq)
  have:=h p (.head _)
  rw [List.map_cons,List.sum_cons,List.length_cons,Nat.succ_mul];lia
theorem noGen {S:Summ} {gl:List (Nat×Code)} (h:S.gneed=[]):∀g∈S.gneed,g∈gl:=by rw [h];exact fun _ h=>nomatch h
theorem vIf2 {S:World->Summ} (c:Bool) (p:Bool->∀b:Bool,c=b->∀(w:World) (s:Shared) (_ _:Nat),PfS w (S w) s)
  (H:allN (fun b=>allN (fun cc=>∀h:c=b,allN (okP [] (p cc b h)) (ws2 cc)) [false,true]) [false,true]=allN (fun b=>allN (fun cc=>∀h:c=b,allN (trP [] (p cc b h)) (ws2 cc)) [false,true]) [false,true]):∀w,Vd w (S w):=by
 intro w
 obtain ⟨cc,g,hg,w0,rfl⟩:=ws2_all w
 have h:=H.mpr (allN_mk (fun _=>allN_mk (fun _ _=>allN_mk trP_true _) _) _)
 exact valid_P (allN_of (allN_of (allN_of h c (by cases c <;>simp)) cc (by cases cc <;>simp) rfl) g hg) roNil w0
theorem bare_tx (tx:LN):(tx.map fun c=>[92,c]).flatten=tx.flatMap (enc false):=by
 induction tx with
 | nil=>rfl
 | cons c r ih=>rw [List.map_cons,List.flatten_cons,ih];rfl
theorem bare_sum (tx:LN):((tx.map fun c=>[92,c]).map List.length).sum=2*tx.length:=by
 induction tx with
 | nil=>rfl
 | cons c r ih=>rw [List.map_cons,List.map_cons,List.sum_cons,ih,List.length_cons];simp;lia
theorem lw_ba {w:World} {F it acc d:Nat} {t:Nat} {tx:LN} (h0:tx≠[]) (hl:tx.length<=1000):Vd w (sBa w F it acc d tx t 0 (dictO w [] 0) [] 0 (baPost tx)):=by
 cases tx with
 | nil=>exact absurd rfl h0
 | cons c r=>exact sBa1_valid F it acc d c r t hl w 0
theorem lw_join {w:World} {L t ep:Nat} {tx:LN} (hl:tx.length<=1000) {x:BaX} (h:baPost tx x) {ba:LN} (hb:ba=[]++tx.flatMap (enc false)++[]):Vd w (sJoinL L [] t x.ss ([]++lineVs x.ss) ep ba):=by
 have h:x.ss.map (·.1)=tx.map fun c=>[92,c]:=h
 refine sJoinL_valid rfl ?_ ?_
 ·rw [h,glue_nil,bare_tx,hb];simp
 ·rw [h,bare_sum];simp;lia
theorem lw_sg {w:World} {cs:LN} (six:cs.length=6) {a:Nat} {ns:List Num} (hv:ns.map Num.val=drawnAll cs):Vd w (sI (sSigns a (numVs ns) 0 (numLed ns) (signs (drawnAll cs))) a (lst (numVs ns) 0) (numLed ns)):=by
 refine sI_valid rfl ?_
 have g:=drawnAll_ok cs
 have l:(drawnAll cs).length=7:=by simp [drawnAll,six]
 rw [←hv] at g l ⊢
 rw [List.length_map] at l
 exact sSigns_valid w a 0 ns (by lia) fun n hn=>g _ (List.mem_map_of_mem hn)
theorem lw_en {w:World} {cs:LN} (six:cs.length=6) {F it acc d a:Nat} {ns:List Num} (hv:ns.map Num.val=drawnAll cs):Vd w (sI (sEn w F it acc d a (numVs ns) 0 (numLed ns) 0 (dictO w [] 0) [] 0 (enPost (drawnAll cs))) a (lst (numVs ns) 0) (numLed ns)):=by
 refine sI_valid rfl ?_
 have g:=drawnAll_ok cs
 have l:(drawnAll cs).length=7:=by simp [drawnAll,six]
 rw [←hv] at g l ⊢
 rw [List.length_map] at l
 cases ns with
 | nil=>cases l
 | cons n r=>exact sEn1_valid F it acc d a 0 n r (by lia) (fun m hm h=>(g _ (List.mem_map_of_mem hm)).1.1 (by unfold Num.val;rw [h];rfl)) w 0
theorem lw_im {T P1 P2 a:Nat×Obj} {l b:Led} (h:∀p∈l,p∈b) {i0:Led}:∀p∈T::P1::P2::a::l,p∈i0\/p∈b++[T,P1,P2,a]:=fun p hp=>
 .inr ((iA (show p∈[T,P1,P2,a]++l from hp)).elim (fun h=>iR h) fun q=>iL (h p q))
theorem lw_quo {cs:LN}:([34]++rep1 34 [92,34] (rep1 92 [92,92] (signs (drawnAll cs))))++[34]=txT true (drawnAll cs):=by
 rw [rep1_enc];rfl
theorem lw_pick {b:Bool}:pick 9 32 b=32\/pick 9 32 b=9:=by cases b <;>simp [pick]
theorem sLaw_valid (w:World) (S:Nat) (l:List (Int×Nat)) (eps:Nat) (hl:l.length<=1000):Vd w (sLaw S (svs l) eps):=by
 have sg:=signs_lt (drawnAll_ok (cellsOf l))
 have r1:=rep1_len 92 92 92 (signs (drawnAll (cellsOf l)))
 have r2:=rep1_len 34 92 34 (rep1 92 [92,92] (signs (drawnAll (cellsOf l))))
 have dl:(drawnAll (cellsOf l)).length=(cellsOf l).length+1:=by simp [drawnAll]
 have e10:ends10 (drawnAll (cellsOf l))<=(drawnAll (cellsOf l)).length:=List.countP_le_length
 have sx:∀{x1:Nat×List (Nat×Nat)×Nat},(x1.2.1.length=6/\(∀p∈x1.2.1,p.1<1000000000000)/\x1.2.1.map (·.1)=cellsOf l)->(cellsOf l).length=6:=fun h=>by rw [←h.2.2,List.length_map];exact h.1
 revert w
 refine vIf2 ((cellsOf l).sum%2==1) ?_ ?_
 ·exact fun cc od hod w s N0 t0 G_ D_ I_=>
   .uq 0x10000800000000080200000002 (sCells S (svs l) eps (cellsOf l)) [] [2] (sCells_valid _ hl) (inJ I_) tt fun x1 N1 t1 h1=>
   .use 0x40001c0001c07 (sI (sDrawA x1.fst (ivs x1.snd.fst) x1.snd.snd (p2 x1)) x1.fst (lst (ivs x1.snd.fst) x1.snd.snd) []) [4] [1,4] [] (sI_valid rfl (sDrawA_valid (by rw [h1.1];decide))) (noImm rfl) fun x2 N2 t2 h2=>
   .u 0x4080000a0000a02800000070000001c07 (sI (sSumL N2 (N2+1) x1.fst (t2+1) x1.snd.fst x1.snd.snd ((cellsOf l).sum)) x1.fst (lst (ivs x1.snd.fst) x1.snd.snd) []) [4,2,5] [1,7] (sI_valid rfl (sSumL_valid (by rw [h1.2.2]) (Nat.lt_of_le_of_lt (by rw [←h1.2.2];exact sum_le _ h1.2.1) (by rw [h1.1];decide)))) tt fun x3 N3 t3=>
   piMod 0x10000701c07 ((cellsOf l).sum) x3 2 (t3+1) ((cellsOf l).sum%2) (by decide) rfl [1,4] fun x4 N4 t4=>
   piEq 0x400 ((cellsOf l).sum%2) x4 1 (t4+0) od hod [1,4] fun x5 N5 t5=>
   piDiv 0x10000701c07 ((cellsOf l).sum) x3 2 (t5+3) ((cellsOf l).sum/2) (by decide) (by decide) rfl [1,4] fun x6 N6 t6=>
   piMod 0x400 ((cellsOf l).sum/2) x6 12 (t6+0) ((cellsOf l).sum/2%12) (by decide) rfl [1,4] fun x7 N7 t7=>
   piAdd 0x400 1 (t5+2) ((cellsOf l).sum/2%12) x7 (1+(cellsOf l).sum/2%12) rfl [1,4] fun x8 N8 t8=>
   .ui 0x40001c0001c07 (sI (sSigns x2.fst (numVs x2.snd) 0 (numLed x2.snd) (signs (drawnAll (cellsOf l)))) x2.fst (lst (numVs x2.snd) 0) (numLed x2.snd)) [4] [1,4] (lw_sg (sx h1) (h2.trans (by rw [h1.2.2]))) (fun p hp=>.inr (iL (iR hp))) tt fun x9 N9 t9=>
   .useG 0x10000701c07 (some (t9+3)) (sRepl (signs (drawnAll (cellsOf l))) x9 92 (t9+1) (t9+2) 92 92 (rep1 92 [92,92] (signs (drawnAll (cellsOf l))))) [] [1,4] [] (sRepl_valid (by lia) (by lia) (by lia) (by have:=sx h1;lia) rfl) (noImm rfl) (noGen rfl) fun x10 N10 t10 _ h10=>
   .useG 0x400 none (sRepl (rep1 92 [92,92] (signs (drawnAll (cellsOf l)))) x10 34 (t10+0) (t10+1) 92 34 (rep1 34 [92,34] (rep1 92 [92,92] (signs (drawnAll (cellsOf l)))))) [] [1,4] [] (sRepl_valid (by have:t9+3<=t10:=h10;lia) (by lia) (by lia) (by have:=sx h1;lia) rfl) (noImm rfl) (noGen rfl) fun x11 N11 t11 _ _=>
   .u 0x10000701c07 (sStrIt (signs (drawnAll (cellsOf l))) x9) [] [1,4] (sStrIt_valid sg.1) tt fun x12 N12 t12=>
   .up (cond cc 0x10000d 0x103400034000340d0000d) (sBa w N0 x12 N12 (N12+1) (signs (drawnAll (cellsOf l))) x9 0 (dictO w [] 0) [] 0 (baPost (signs (drawnAll (cellsOf l))))) [7,2,5] [1,4,2,5] (lw_ba (fun h=>by have:=congrArg List.length h;have:=sx h1;simp only [List.length_nil] at *;lia) (by have:=sx h1;lia)) tt fun x13 N13 t13 h13=>
   .u 0x10001004010 (sJoinL N12 [] (t11+1) x13.ss ([]++lineVs x13.ss) x13.o.ep (txT false (drawnAll (cellsOf l)))) [7] [1,4] (lw_join (by have:=sx h1;lia) h13 rfl) tt fun x14 N14 t14=>
   .uq (cond cc 0x1000080000a0000a028070000001c07 0x1020000200002008000080000a0000a028070000001c07) (sI (sEn w N0 N14 (N14+1) (N14+2) x2.fst (numVs x2.snd) 0 (numLed x2.snd) 0 (dictO w [] 0) [] 0 (enPost (drawnAll (cellsOf l)))) x2.fst (lst (numVs x2.snd) 0) (numLed x2.snd)) [4,2,5,8] [1,4,5,8] (lw_en (sx h1) (h2.trans (by rw [h1.2.2]))) (fun p hp=>.inr (iL (iR hp))) tt fun x15 N15 t15 h15=>
   .u 0x10001004010 (sI (sLenI (N14+1) ([]++x15.vs) x15.o.ep (ends10 (drawnAll (cellsOf l)))) (N14+1) (lst ([]++x15.vs) x15.o.ep) []) [7] [1,4] (sI_valid rfl (sLenI_valid (show x15.vs.length=ends10 (drawnAll (cellsOf l)) from h15) (by have:=sx h1;lia))) tt fun x16 N16 t16=>
   .u 0x10000701c07 (sAdd [34] (t16+1) (rep1 34 [92,34] (rep1 92 [92,92] (signs (drawnAll (cellsOf l))))) x11) [] [1,4] (sAdd_valid (by have:=sx h1;simp only [List.length_cons,List.length_nil];lia)) tt fun x17 N17 t17=>
   .u 0x400 (sAdd ([34]++(rep1 34 [92,34] (rep1 92 [92,92] (signs (drawnAll (cellsOf l)))))) x17 [34] (t17+0)) [] [1,4] (sAdd_valid (by have:=sx h1;simp only [List.length_append,List.length_cons,List.length_nil];lia)) tt fun x18 N18 t18=>
   .use 0x4110000e0000e03807 (sLw1 w (LwR.mk N0 (N18+3) (N18+2) N18 (N18+1) S x1.fst x2.fst (fun x=>match x with | 0=>t0 | 1=>t1 | 2=>t2 | 3=>t3 | 4=>t5+1 | 5=>t8 | 6=>t9 | 7=>t11 | 8=>t14 | x=>t16) ((cellsOf l).sum) x3 (pick 9 32 od) t5 (1+(cellsOf l).sum/2%12) x8 (signs (drawnAll (cellsOf l))) x9 (rep1 34 [92,34] (rep1 92 [92,92] (signs (drawnAll (cellsOf l))))) x11 (txT false (drawnAll (cellsOf l))) x14 (ends10 (drawnAll (cellsOf l))) x16 ([34]++(rep1 34 [92,34] (rep1 92 [92,92] (signs (drawnAll (cellsOf l)))))++[34]) x18) x2.snd) [1,11,0,3,6] [] [(8,N18+2,tup [.ref N18,.ref (N18+1)]),(2,N18,tup [.str (st (([34]++(rep1 34 [92,34] (rep1 92 [92,92] (signs (drawnAll (cellsOf l))))))++[34])) x18,.bool true]),(5,N18+1,tup [.str (st (txT false (drawnAll (cellsOf l)))) x14,.bool false]),(4,x2.1,lst (numVs x2.2) 0)] (sLw1_valid _ (cellsOf l) ⟨sx h1,h2.trans (by rw [h1.2.2]),lw_pick,lw_quo,rfl,rfl⟩) (inW D_ (lw_im fun p hp=>iR hp)) fun x19 N19 t19 _=>
   endQ D_ 0x4 (⟨x19.b1,x19.b2,x19.b3⟩:LwX) [0,3,6] [] [] fun s' O=>⟨⟨x19.b1,x19.b2,x19.b3⟩,trivial,rfl,rfl,O.noGi⟩
 kernel_rfl
end Mine
theorem PySem.Challenge.cw_ty0037_01_holds : PySem.Challenge.rw_ty0037_01.Holds :=
 Mine.fin Mine.sLaw_valid
