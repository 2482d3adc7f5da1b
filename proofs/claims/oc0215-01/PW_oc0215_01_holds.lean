import PyProof.Rows.All
import Wide.All
import OpenK.AllK
import Wide.FinOn
import PySem.Challenge.RW_oc0215_01
open PySem PySem.W PyProof.Rows
set_option Elab.async false
set_option linter.unusedVariables false
set_option linter.unusedSimpArgs false
set_option maxRecDepth 100000
set_option maxHeartbeats 8000000
set_option compiler.extract_closed false
local macro_rules | `(tactic| walk_at $s:str) => `(tactic| k_extra $s)
local macro_rules | `(tactic| k_room) => `(tactic| k_extra "k_room")
local macro_rules | `(tactic| k_all) => `(tactic| k_extra "k_all")
local macro_rules | `(tactic| k_upd) => `(tactic| k_extra "k_upd")
local macro_rules | `(tactic| k_mem) => `(tactic| k_extra "k_mem")
local macro_rules | `(tactic| cell_enter) => `(tactic| k_extra "cell_enter")
namespace MineH
/-- the program's statements by their places -/
noncomputable def nth {α : Type} : List α → Nat → Option α
  | [], _ => none
  | x :: _, 0 => some x
  | _ :: r, n + 1 => nth r n
noncomputable def stA (i : Nat) : Option Stmt := nth PySem.Challenge.pw_oc0215_01.main.body i
noncomputable def fA : Option Stmt → Arguments
  | some (.FunctionDef _ a _ _ _ _ _ _ _ _) => a
  | _ => ⟨[], [], none, [], [], none, []⟩
noncomputable def fB : Option Stmt → List Stmt
  | some (.FunctionDef _ _ b _ _ _ _ _ _ _) => b
  | _ => []
noncomputable def fS : Option Stmt → Scope
  | some (.FunctionDef _ _ _ _ _ _ s _ _ _) => s
  | _ => ⟨.function, [], false, false, []⟩
noncomputable def cB : Option Stmt → List Stmt
  | some (.ClassDef _ _ _ b _ _ _ _ _ _ _) => b
  | _ => []
noncomputable def aA (i : Nat) : Arguments := fA (stA i)
noncomputable def aB (i : Nat) : List Stmt := fB (stA i)
noncomputable def aS (i : Nat) : Scope := fS (stA i)
noncomputable def mA (i j : Nat) : Arguments := fA (nth (cB (stA i)) j)
noncomputable def mB (i j : Nat) : List Stmt := fB (nth (cB (stA i)) j)
noncomputable def mS (i j : Nat) : Scope := fS (nth (cB (stA i)) j)
noncomputable abbrev o (x : String) : Str := Str.ofString x
noncomputable abbrev vs (x : Str) (t : Tok) : Value := .str x t
noncomputable abbrev vi (n : Int) (t : Tok) : Value := .int n t
noncomputable abbrev vr (a : Addr) : Value := .ref a
noncomputable abbrev dk (P : Params) (x : String) (t : Tok) (v : Value) : DictEntry := ⟨PyData.keyHash P (Str.ofString x), .str (Str.ofString x) t, v⟩
noncomputable abbrev w (x : String) (t : Nat) : Value := .str (Str.ofString x) t
noncomputable abbrev ni (k : Nat) : Value := .int (Int.ofNat k) 0
noncomputable abbrev sA (i : Nat) : Option Stmt := stA i
noncomputable abbrev sM (i j : Nat) : Option Stmt := nth (cB (stA i)) j
noncomputable abbrev em : Obj := ⟨.none, none, .fields #[], #[]⟩
noncomputable abbrev tu (l : List Value) : Obj := ⟨.type "tuple", none, .seq ⟨l⟩ 0, #[]⟩
noncomputable abbrev co (n q : String) (t1 t2 t3 l a p k f c : Nat) (b : Bool) (g d : Nat) (x1 x2 x3 x4 : Value) (e t4 : Nat) : Obj :=
  ⟨.type "code", none, .fields ⟨[w n t1, w q t2, w "/claim/cut.py" t3, ni l, ni a, ni p, ni k, ni f, .ref c, .bool b, ni g, .ref d, x1, x2, x3, x4, ni e, ni l, w "/claim/cut.py" t4]⟩, #[]⟩
noncomputable abbrev fu (n q : String) (s : Option Stmt) (dv kv : Value) (pm : String) (pt cd : Nat) : Obj :=
  ⟨.type "function", none, .func ⟨Str.ofString n, Str.ofString q, fA s, .stmts (fB s), fS s, 3, [], dv, kv, .none, w pm pt, none, .ref cd, .none, 0⟩, #[]⟩
noncomputable abbrev pf (n q : String) (s : Option Stmt) : Obj :=
  ⟨.none, none, .func ⟨Str.ofString n, Str.ofString q, fA s, .stmts (fB s), fS s, 0, [], .none, .none, .none, .none, none, .none, .none, 0⟩, #[]⟩
noncomputable def ob0 (P : Params) : Obj := (Obj.mk (Value.type "builtin_function_or_method") none (Data.fields #[(Value.builtin "type.__prepare__"), (Value.type "type")]) #[])
noncomputable def ob1 (P : Params) : Obj := (Obj.mk Value.none none (Data.dict #[dk P "\x69mport.loaded._sre" 183 (Value.bool true), dk P "class._frozen_importlib.BuiltinImporter" 185 (vr 14), dk P "watched.\x69mport" 206 (vr 18), dk P "class._frozen_importlib.ModuleSpec" 216 (vr 22), dk P "sys.modules.booked-epoch" 245 (ni 4), dk P "\x69mport.later-laid._sre" 270 (Value.bool true), dk P "watched.library" 272 (vr 27), dk P "watched.library-objects" 0 (w "\x0c\x1e" 0), dk P "watched.library-deep._sre" 273 (w "\x04\x00\x00\x0b\x04\x00\x00\x0b\x04\x00\x00\x03\x04\x00\x00\x0b\x08\x04dict\x02" 0), dk P "\x69mport.loaded._collections" 280 (Value.bool true), dk P "sys.modules.landed._collections" 294 (Value.bool true), dk P "\x69mport.later-laid._collections" 309 (Value.bool true), dk P "watched.library-deep._collections" 311 (w "\x04\x00\x00\x1d\x04\x00\x00\x1d\x04\x00\x00\x03\x04\x00\x00\x1d\x08\x04dict\x02" 0)] 13) #[])
noncomputable def ob2 (P : Params) : Obj := (Obj.mk (Value.type "dict") none (Data.dict #[dk P "__name__" 165 (w "__main__" 164), dk P "__doc__" 166 Value.none, dk P "__package__" 167 Value.none, dk P "__loader__" 168 (Value.builtin "__main__.__loader__#opaque"), dk P "__spec__" 169 Value.none, dk P "__annotations__" 170 (vr 6), dk P "__builtins__" 171 (vr 4), dk P "__file__" 173 (w "/claim/cut.py" 172), dk P "__cached__" 174 Value.none, dk P "_sre" 275 (vr 12), dk P "deque" 317 (Value.type "collections.deque")] 11) #[])
noncomputable def ob3 (P : Params) : Obj := (Obj.mk (Value.type "type") none (Data.cls (ClassData.mk (o "TextIOBase") [(vr 105)] [(vr 132), (vr 105), (Value.type "object")] 131 (o "TextIOBase") true [] [] false none false)) #[(some (vr 123)), none, (some (w "TextIOBase" 490)), (some (w "TextIOBase" 498)), (some Value.none), (some (Value.bool true))])
noncomputable def lif : Life := (Life.mk [] [] [] 0 [] [] false #[] [] 0 false false false 0 [2000, 10, 10] false 0 true [] [] 0 false)
noncomputable def dr : Drawn := Drawn.mk 0 0 0 0
noncomputable def gs0 : Array GenState := Array.mk []
noncomputable def ann : Option Value := some (.ref 6)
/-- the objects behind the opening, ahead of the first statement, and at the end -/
noncomputable def L1 : Params → List Obj := fun P => [
  (Obj.mk (Value.type "dict") none (Data.dict #[dk P "__name__" 1 (w "builtins" 160), dk P "__doc__" 2 (Value.builtin "builtins.__doc__:str#opaque"), dk P "__package__" 3 (Value.builtin "builtins.__package__:str#opaque"), dk P "__loader__" 4 (Value.builtin "builtins.__loader__:shared#opaque"), dk P "__spec__" 5 (Value.builtin "builtins.__spec__#opaque"), dk P "__build_class__" 6 (Value.builtin "__build_class__"), dk P "__import__" 7 (Value.builtin "__import__"), dk P "abs" 8 (Value.builtin "abs"), dk P "all" 9 (Value.builtin "all"), dk P "any" 10 (Value.builtin "any"), dk P "ascii" 11 (Value.builtin "ascii"), dk P "bin" 12 (Value.builtin "bin"), dk P "breakpoint" 13 (Value.builtin "breakpoint"), dk P "callable" 14 (Value.builtin "callable"), dk P "chr" 15 (Value.builtin "chr"), dk P "compile" 16 (Value.builtin "compile"), dk P "delattr" 17 (Value.builtin "delattr"), dk P "dir" 18 (Value.builtin "dir"), dk P "divmod" 19 (Value.builtin "divmod"), dk P "eval" 20 (Value.builtin "eval"), dk P "exec" 21 (Value.builtin "exec"), dk P "format" 22 (Value.builtin "format"), dk P "getattr" 23 (Value.builtin "getattr"), dk P "globals" 24 (Value.builtin "globals"), dk P "hasattr" 25 (Value.builtin "hasattr"), dk P "hash" 26 (Value.builtin "hash"), dk P "hex" 27 (Value.builtin "hex"), dk P "id" 28 (Value.builtin "id"), dk P "input" 29 (Value.builtin "input"), dk P "isinstance" 30 (Value.builtin "isinstance"), dk P "issubclass" 31 (Value.builtin "issubclass"), dk P "iter" 32 (Value.builtin "iter"), dk P "aiter" 33 (Value.builtin "aiter"), dk P "len" 34 (Value.builtin "len"), dk P "locals" 35 (Value.builtin "locals"), dk P "max" 36 (Value.builtin "max"), dk P "min" 37 (Value.builtin "min"), dk P "next" 38 (Value.builtin "next"), dk P "anext" 39 (Value.builtin "anext"), dk P "oct" 40 (Value.builtin "oct"), dk P "ord" 41 (Value.builtin "ord"), dk P "pow" 42 (Value.builtin "pow"), dk P "print" 43 (Value.builtin "print"), dk P "repr" 44 (Value.builtin "repr"), dk P "round" 45 (Value.builtin "round"), dk P "setattr" 46 (Value.builtin "setattr"), dk P "sorted" 47 (Value.builtin "sorted"), dk P "sum" 48 (Value.builtin "sum"), dk P "vars" 49 (Value.builtin "vars"), dk P "None" 50 Value.none, dk P "Ellipsis" 51 Value.ellipsis, dk P "NotImplemented" 52 Value.notImplemented, dk P "False" 53 (Value.bool false), dk P "True" 54 (Value.bool true), dk P "bool" 55 (Value.type "bool"), dk P "memoryview" 56 (Value.type "memoryview"), dk P "bytearray" 57 (Value.type "bytearray"), dk P "bytes" 58 (Value.type "bytes"), dk P "classmethod" 59 (Value.type "classmethod"), dk P "complex" 60 (Value.type "complex"), dk P "dict" 61 (Value.type "dict"), dk P "enumerate" 62 (Value.type "enumerate"), dk P "filter" 63 (Value.type "filter"), dk P "float" 64 (Value.type "float"), dk P "frozenset" 65 (Value.type "frozenset"), dk P "property" 66 (Value.type "property"), dk P "int" 67 (Value.type "int"), dk P "list" 68 (Value.type "list"), dk P "map" 69 (Value.type "map"), dk P "object" 70 (Value.type "object"), dk P "range" 71 (Value.type "range"), dk P "reversed" 72 (Value.type "reversed"), dk P "set" 73 (Value.type "set"), dk P "slice" 74 (Value.type "slice"), dk P "staticmethod" 75 (Value.type "staticmethod"), dk P "str" 76 (Value.type "str"), dk P "super" 77 (Value.type "super"), dk P "tuple" 78 (Value.type "tuple"), dk P "type" 79 (Value.type "type"), dk P "zip" 80 (Value.type "zip"), dk P "__debug__" 81 (Value.bool true), dk P "BaseException" 82 (Value.type "BaseException"), dk P "BaseExceptionGroup" 83 (Value.type "BaseExceptionGroup"), dk P "Exception" 84 (Value.type "Exception"), dk P "GeneratorExit" 85 (Value.type "GeneratorExit"), dk P "KeyboardInterrupt" 86 (Value.type "KeyboardInterrupt"), dk P "SystemExit" 87 (Value.type "SystemExit"), dk P "ArithmeticError" 88 (Value.type "ArithmeticError"), dk P "AssertionError" 89 (Value.type "AssertionError"), dk P "AttributeError" 90 (Value.type "AttributeError"), dk P "BufferError" 91 (Value.type "BufferError"), dk P "EOFError" 92 (Value.type "EOFError"), dk P "ImportError" 93 (Value.type "ImportError"), dk P "LookupError" 94 (Value.type "LookupError"), dk P "MemoryError" 95 (Value.type "MemoryError"), dk P "NameError" 96 (Value.type "NameError"), dk P "OSError" 97 (Value.type "OSError"), dk P "ReferenceError" 98 (Value.type "ReferenceError"), dk P "RuntimeError" 99 (Value.type "RuntimeError"), dk P "StopAsyncIteration" 100 (Value.type "StopAsyncIteration"), dk P "StopIteration" 101 (Value.type "StopIteration"), dk P "SyntaxError" 102 (Value.type "SyntaxError"), dk P "SystemError" 103 (Value.type "SystemError"), dk P "TypeError" 104 (Value.type "TypeError"), dk P "ValueError" 105 (Value.type "ValueError"), dk P "Warning" 106 (Value.type "Warning"), dk P "FloatingPointError" 107 (Value.type "FloatingPointError"), dk P "OverflowError" 108 (Value.type "OverflowError"), dk P "ZeroDivisionError" 109 (Value.type "ZeroDivisionError"), dk P "BytesWarning" 110 (Value.type "BytesWarning"), dk P "DeprecationWarning" 111 (Value.type "DeprecationWarning"), dk P "EncodingWarning" 112 (Value.type "EncodingWarning"), dk P "FutureWarning" 113 (Value.type "FutureWarning"), dk P "ImportWarning" 114 (Value.type "ImportWarning"), dk P "PendingDeprecationWarning" 115 (Value.type "PendingDeprecationWarning"), dk P "ResourceWarning" 116 (Value.type "ResourceWarning"), dk P "RuntimeWarning" 117 (Value.type "RuntimeWarning"), dk P "SyntaxWarning" 118 (Value.type "SyntaxWarning"), dk P "UnicodeWarning" 119 (Value.type "UnicodeWarning"), dk P "UserWarning" 120 (Value.type "UserWarning"), dk P "BlockingIOError" 121 (Value.type "BlockingIOError"), dk P "ChildProcessError" 122 (Value.type "ChildProcessError"), dk P "ConnectionError" 123 (Value.type "ConnectionError"), dk P "FileExistsError" 124 (Value.type "FileExistsError"), dk P "FileNotFoundError" 125 (Value.type "FileNotFoundError"), dk P "InterruptedError" 126 (Value.type "InterruptedError"), dk P "IsADirectoryError" 127 (Value.type "IsADirectoryError"), dk P "NotADirectoryError" 128 (Value.type "NotADirectoryError"), dk P "PermissionError" 129 (Value.type "PermissionError"), dk P "ProcessLookupError" 130 (Value.type "ProcessLookupError"), dk P "TimeoutError" 131 (Value.type "TimeoutError"), dk P "IndentationError" 132 (Value.type "IndentationError"), dk P "_IncompleteInputError" 133 (Value.type "_IncompleteInputError"), dk P "IndexError" 134 (Value.type "IndexError"), dk P "KeyError" 135 (Value.type "KeyError"), dk P "ModuleNotFoundError" 136 (Value.type "ModuleNotFoundError"), dk P "NotImplementedError" 137 (Value.type "NotImplementedError"), dk P "PythonFinalizationError" 138 (Value.type "PythonFinalizationError"), dk P "RecursionError" 139 (Value.type "RecursionError"), dk P "UnboundLocalError" 140 (Value.type "UnboundLocalError"), dk P "UnicodeError" 141 (Value.type "UnicodeError"), dk P "BrokenPipeError" 142 (Value.type "BrokenPipeError"), dk P "ConnectionAbortedError" 143 (Value.type "ConnectionAbortedError"), dk P "ConnectionRefusedError" 144 (Value.type "ConnectionRefusedError"), dk P "ConnectionResetError" 145 (Value.type "ConnectionResetError"), dk P "TabError" 146 (Value.type "TabError"), dk P "UnicodeDecodeError" 147 (Value.type "UnicodeDecodeError"), dk P "UnicodeEncodeError" 148 (Value.type "UnicodeEncodeError"), dk P "UnicodeTranslateError" 149 (Value.type "UnicodeTranslateError"), dk P "ExceptionGroup" 150 (Value.type "ExceptionGroup"), dk P "EnvironmentError" 151 (Value.type "OSError"), dk P "IOError" 152 (Value.type "OSError"), dk P "open" 153 (Value.builtin "open"), dk P "quit" 154 (Value.builtin "builtins.quit#opaque"), dk P "exit" 155 (Value.builtin "builtins.exit#opaque"), dk P "copyright" 156 (Value.builtin "builtins.copyright#opaque"), dk P "credits" 157 (Value.builtin "builtins.credits#opaque"), dk P "license" 158 (Value.builtin "builtins.license#opaque"), dk P "help" 159 (Value.builtin "builtins.help#opaque")] 159) #[]),
  (Obj.mk (Value.type "dict") none (Data.dict #[dk P "builtins" 162 (vr 4), dk P "__main__" 163 (vr 5), dk P "_sre" 244 (vr 12), dk P "_collections" 292 (vr 30)] 4) #[]),
  (Obj.mk Value.none none (Data.dict #[dk P "\x69mport.loaded._sre" 183 (Value.bool true), dk P "class._frozen_importlib.BuiltinImporter" 185 (vr 14), dk P "watched.\x69mport" 206 (vr 18), dk P "class._frozen_importlib.ModuleSpec" 216 (vr 22), dk P "sys.modules.booked-epoch" 245 (ni 4), dk P "\x69mport.later-laid._sre" 270 (Value.bool true), dk P "watched.library" 272 (vr 27), dk P "watched.library-objects" 0 (w "\x0c\x1e" 0), dk P "watched.library-deep._sre" 273 (w "\x04\x00\x00\x0b\x04\x00\x00\x0b\x04\x00\x00\x03\x04\x00\x00\x0b\x08\x04dict\x02" 0), dk P "\x69mport.loaded._collections" 280 (Value.bool true), dk P "sys.modules.landed._collections" 294 (Value.bool true), dk P "\x69mport.later-laid._collections" 309 (Value.bool true), dk P "watched.library-deep._collections" 311 (w "\x04\x00\x00\x1d\x04\x00\x00\x1d\x04\x00\x00\x03\x04\x00\x00\x1d\x08\x04dict\x02" 0), dk P "type.__subclasses__.OSError.0" 436 (ni 85), dk P "type.__subclasses__.OSError.n" 437 (ni 1)] 15) #[]),
  (Obj.mk (Value.type "dict") none (Data.dict #[dk P "__name__" 165 (w "law_oc0215_01" 1268), dk P "__doc__" 166 Value.none, dk P "__package__" 167 Value.none, dk P "__loader__" 168 (Value.builtin "__main__.__loader__#opaque"), dk P "__spec__" 169 Value.none, dk P "__annotations__" 170 (vr 6), dk P "__builtins__" 171 (vr 4), dk P "__file__" 173 (w "/claim/cut.py" 172), dk P "__cached__" 174 Value.none, dk P "_sre" 275 (vr 12), dk P "deque" 317 (Value.type "collections.deque"), dk P "_wall" 330 (vr 44), dk P "_twin_re_1" 348 (vr 49), dk P "_twin_re_2" 390 (vr 54), dk P "CRLF" 392 (w "\x0d\n" 391), dk P "quotedata" 399 (vr 61), dk P "_whence" 409 (vr 68), dk P "_index" 417 (vr 75), dk P "UnsupportedOperation" 439 (vr 85), dk P "IOBase" 471 (vr 105), dk P "BufferedIOBase" 489 (vr 120), dk P "TextIOBase" 507 (vr 132), dk P "BytesIO" 769 (vr 362), dk P "StringIO" 1056 (vr 609), dk P "_kind" 1067 (vr 618), dk P "_fspath" 1076 (vr 625), dk P "_check_arg_types" 1086 (vr 632), dk P "isabs" 1093 (vr 639), dk P "join" 1104 (vr 646), dk P "dirname" 1114 (vr 653), dk P "shlex" 1255 (vr 744), dk P "unorderable_list_difference" 1267 (vr 755), dk P "_law_text" 1279 (vr 762), dk P "_law_tokens" 1289 (vr 769), dk P "_law_word" 1296 (vr 776), dk P "_law_sent" 1304 (vr 783), dk P "_law_texts" 1310 (vr 788), dk P "_law_second" 1320 (vr 795), dk P "_law_sizes" 1326 (vr 800), dk P "law" 1332 (vr 805)] 40) #[]),
  (Obj.mk (Value.type "module") (some 0) Data.plain #[]),
  (Obj.mk (Value.type "module") (some 3) Data.plain #[]),
  (Obj.mk (Value.type "dict") none (Data.dict #[] 0) #[]),
  (tu []),
  em,
  (co "<module>" "<module>" 176 177 178 1 0 0 0 0 7 false 175 8 Value.none Value.none Value.none Value.none 179 180),
  (Obj.mk (Value.type "frame") none Data.plain #[(some (vr 9)), (some (vr 3)), (some (vr 3)), none, (some (w "__main__" 164)), none, (some (vr 0))]),
  (Obj.mk (Value.type "dict") none (Data.dict #[dk P "__name__" 247 (w "_sre" 246), dk P "__doc__" 248 Value.none, dk P "__package__" 250 (w "" 249), dk P "__loader__" 251 (Value.builtin "off-the-table:_sre.__loader__:shared#opaque"), dk P "__spec__" 252 (Value.builtin "off-the-table:_sre.__spec__:shared#opaque"), dk P "compile" 253 (Value.builtin "_sre.compile"), dk P "template" 254 (Value.builtin "off-the-table:_sre.template:shared#opaque"), dk P "getcodesize" 255 (Value.builtin "off-the-table:_sre.getcodesize:shared#opaque"), dk P "ascii_iscased" 256 (Value.builtin "off-the-table:_sre.ascii_iscased:shared#opaque"), dk P "unicode_iscased" 257 (Value.builtin "off-the-table:_sre.unicode_iscased:shared#opaque"), dk P "ascii_tolower" 258 (Value.builtin "off-the-table:_sre.ascii_tolower:shared#opaque"), dk P "unicode_tolower" 259 (Value.builtin "off-the-table:_sre.unicode_tolower:shared#opaque"), dk P "MAGIC" 261 (vi 20230612 260), dk P "CODESIZE" 263 (vi 4 262), dk P "MAXREPEAT" 265 (vi 4294967295 264), dk P "MAXGROUPS" 267 (vi 1073741823 266), dk P "copyright" 269 (w " SRE 2.2.2 Copyright (c) 1997-2002 by Secret Labs AB " 268)] 17) #[]),
  (Obj.mk (Value.type "module") (some 11) Data.plain #[]),
  (Obj.mk (Value.type "dict") none (Data.dict #[dk P "__module__" 189 (w "_frozen_importlib" 186), dk P "__firstlineno__" 190 (vi 971 187), dk P "__doc__" 191 (Value.builtin "_frozen_importlib.BuiltinImporter.__doc__:str#opaque"), dk P "_ORIGIN" 192 (w "built-in" 188), dk P "find_spec" 193 (Value.builtin "_frozen_importlib.BuiltinImporter.find_spec#opaque"), dk P "create_module" 194 (Value.builtin "_frozen_importlib.BuiltinImporter.create_module#opaque"), dk P "exec_module" 195 (Value.builtin "_frozen_importlib.BuiltinImporter.exec_module#opaque"), dk P "get_code" 196 (Value.builtin "_frozen_importlib.BuiltinImporter.get_code#opaque"), dk P "get_source" 197 (Value.builtin "_frozen_importlib.BuiltinImporter.get_source#opaque"), dk P "is_package" 198 (Value.builtin "_frozen_importlib.BuiltinImporter.is_package#opaque"), dk P "load_module" 199 (Value.builtin "_frozen_importlib.BuiltinImporter.load_module#opaque"), dk P "__static_attributes__" 200 (vr 15), dk P "__dict__" 202 (vr 16), dk P "__weakref__" 204 (vr 17)] 14) #[]),
  (Obj.mk (Value.type "type") none (Data.cls (ClassData.mk (o "BuiltinImporter") [(Value.type "object")] [(vr 14), (Value.type "object")] 13 (o "BuiltinImporter") true [] [] false none false)) #[]),
  (tu []),
  (Obj.mk (Value.type "getset_descriptor") none (Data.fields #[(w "__dict__" 201), (vr 14), (Value.builtin "function.__dict__"), (Value.builtin "function.__dict__#set")]) #[]),
  (Obj.mk (Value.type "getset_descriptor") none (Data.fields #[(w "__weakref__" 203), (vr 14), (Value.builtin "ExceptionGroup.__weakref__"), Value.none]) #[]),
  (Obj.mk Value.none none (Data.seq #[(ni 13), (w "\x06½\n__module__\x06º\x11_frozen_importlib\x06¾\x0f__firstlineno__\x04»\x00ϋ\x06¿\x07__doc__\t4_frozen_importlib.BuiltinImporter.__doc__:str#opaque\x06À\x07_ORIGIN\x06¼\x08built-in\x06Á\tfind_spec\t2_frozen_importlib.BuiltinImporter.find_spec#opaque\x06Â\x0dcreate_module\t6_frozen_importlib.BuiltinImporter.create_module#opaque\x06Ã\x0bexec_module\t4_frozen_importlib.BuiltinImporter.exec_module#opaque\x06Ä\x08get_code\t1_frozen_importlib.BuiltinImporter.get_code#opaque\x06Å\nget_source\t3_frozen_importlib.BuiltinImporter.get_source#opaque\x06Æ\nis_package\t3_frozen_importlib.BuiltinImporter.is_package#opaque\x06Ç\x0bload_module\t4_frozen_importlib.BuiltinImporter.load_module#opaque\x06È\x15__static_attributes__\x04\x00\x00\x0f\x06Ê\x08__dict__\x04\x00\x00\x10\x06Ì\x0b__weakref__\x04\x00\x00\x11" 0), (Value.bool true), (Value.bool true), (w "" 205), (ni 21), (w "\x06ã\n__module__\x06Ù\x11_frozen_importlib\x06ä\x0f__firstlineno__\x04Ú\x00Ȳ\x06å\x07__doc__\t/_frozen_importlib.ModuleSpec.__doc__:str#opaque\x06æ\x08__init__\t,_frozen_importlib.ModuleSpec.__init__#opaque\x06ç\x08__repr__\t,_frozen_importlib.ModuleSpec.__repr__#opaque\x06è\x06__eq__\t*_frozen_importlib.ModuleSpec.__eq__#opaque\x06é\x06cached\t*_frozen_importlib.ModuleSpec.cached#opaque\x06ê\x06parent\t*_frozen_importlib.ModuleSpec.parent#opaque\x06ë\x0chas_location\t0_frozen_importlib.ModuleSpec.has_location#opaque\x06ì\x15__static_attributes__\x04\x00\x00\x17\x06î\x08__dict__\x04\x00\x00\x18\x06ð\x0b__weakref__\x04\x00\x00\x19\x06ñ\x08__hash__\x00" 0), (Value.bool true), (Value.bool true), (w "" 242)] 1) #[]),
  (Obj.mk (Value.type "list") none (Data.seq #[] 0) #[]),
  (Obj.mk (Value.type "dict") none (Data.dict #[dk P "name" 208 (w "_sre" 207), dk P "loader" 209 (vr 14), dk P "origin" 210 (w "built-in" 184), dk P "loader_state" 211 Value.none, dk P "submodule_search_locations" 212 Value.none, dk P "_uninitialized_submodules" 213 (vr 19), dk P "_set_fileattr" 214 (Value.bool false), dk P "_cached" 215 Value.none, dk P "_initializing" 243 (Value.bool false)] 9) #[]),
  (Obj.mk (Value.type "dict") none (Data.dict #[dk P "__module__" 227 (w "_frozen_importlib" 217), dk P "__firstlineno__" 228 (vi 562 218), dk P "__doc__" 229 (Value.builtin "_frozen_importlib.ModuleSpec.__doc__:str#opaque"), dk P "__init__" 230 (Value.builtin "_frozen_importlib.ModuleSpec.__init__#opaque"), dk P "__repr__" 231 (Value.builtin "_frozen_importlib.ModuleSpec.__repr__#opaque"), dk P "__eq__" 232 (Value.builtin "_frozen_importlib.ModuleSpec.__eq__#opaque"), dk P "cached" 233 (Value.builtin "_frozen_importlib.ModuleSpec.cached#opaque"), dk P "parent" 234 (Value.builtin "_frozen_importlib.ModuleSpec.parent#opaque"), dk P "has_location" 235 (Value.builtin "_frozen_importlib.ModuleSpec.has_location#opaque"), dk P "__static_attributes__" 236 (vr 23), dk P "__dict__" 238 (vr 24), dk P "__weakref__" 240 (vr 25), dk P "__hash__" 241 Value.none] 13) #[]),
  (Obj.mk (Value.type "type") none (Data.cls (ClassData.mk (o "ModuleSpec") [(Value.type "object")] [(vr 22), (Value.type "object")] 21 (o "ModuleSpec") true [] [] false none false)) #[]),
  (tu [(w "_cached" 219), (w "_set_fileattr" 220), (w "_uninitialized_submodules" 221), (w "loader" 222), (w "loader_state" 223), (w "name" 224), (w "origin" 225), (w "submodule_search_locations" 226)]),
  (Obj.mk (Value.type "getset_descriptor") none (Data.fields #[(w "__dict__" 237), (vr 22), (Value.builtin "function.__dict__"), (Value.builtin "function.__dict__#set")]) #[]),
  (Obj.mk (Value.type "getset_descriptor") none (Data.fields #[(w "__weakref__" 239), (vr 22), (Value.builtin "ExceptionGroup.__weakref__"), Value.none]) #[]),
  (Obj.mk (vr 22) (some 20) Data.plain #[]),
  (Obj.mk Value.none none (Data.seq #[(ni 11), (vs (Str.mk #[6, 247, 8, 95, 95, 110, 97, 109, 101, 95, 95, 6, 246, 4, 95, 115, 114, 101, 6, 248, 7, 95, 95, 100, 111, 99, 95, 95, 0, 6, 250, 11, 95, 95, 112, 97, 99, 107, 97, 103, 101, 95, 95, 6, 249, 0, 6, 251, 10, 95, 95, 108, 111, 97, 100, 101, 114, 95, 95, 4, 0, 0, 14, 6, 252, 8, 95, 95, 115, 112, 101, 99, 95, 95, 4, 0, 0, 26, 6, 253, 7, 99, 111, 109, 112, 105, 108, 101, 9, 12, 95, 115, 114, 101, 46, 99, 111, 109, 112, 105, 108, 101, 6, 254, 8, 116, 101, 109, 112, 108, 97, 116, 101, 9, 13, 95, 115, 114, 101, 46, 116, 101, 109, 112, 108, 97, 116, 101, 6, 255, 11, 103, 101, 116, 99, 111, 100, 101, 115, 105, 122, 101, 9, 16, 95, 115, 114, 101, 46, 103, 101, 116, 99, 111, 100, 101, 115, 105, 122, 101, 6, 256, 13, 97, 115, 99, 105, 105, 95, 105, 115, 99, 97, 115, 101, 100, 9, 18, 95, 115, 114, 101, 46, 97, 115, 99, 105, 105, 95, 105, 115, 99, 97, 115, 101, 100, 6, 257, 15, 117, 110, 105, 99, 111, 100, 101, 95, 105, 115, 99, 97, 115, 101, 100, 9, 20, 95, 115, 114, 101, 46, 117, 110, 105, 99, 111, 100, 101, 95, 105, 115, 99, 97, 115, 101, 100, 6, 258, 13, 97, 115, 99, 105, 105, 95, 116, 111, 108, 111, 119, 101, 114, 9, 18, 95, 115, 114, 101, 46, 97, 115, 99, 105, 105, 95, 116, 111, 108, 111, 119, 101, 114, 6, 259, 15, 117, 110, 105, 99, 111, 100, 101, 95, 116, 111, 108, 111, 119, 101, 114, 9, 20, 95, 115, 114, 101, 46, 117, 110, 105, 99, 111, 100, 101, 95, 116, 111, 108, 111, 119, 101, 114, 6, 261, 5, 77, 65, 71, 73, 67, 4, 260, 0, 20230612, 6, 263, 8, 67, 79, 68, 69, 83, 73, 90, 69, 4, 262, 0, 4, 6, 265, 9, 77, 65, 88, 82, 69, 80, 69, 65, 84, 4, 264, 0, 4294967295, 6, 267, 9, 77, 65, 88, 71, 82, 79, 85, 80, 83, 4, 266, 0, 1073741823, 6, 269, 9, 99, 111, 112, 121, 114, 105, 103, 104, 116, 6, 268, 53, 32, 83, 82, 69, 32, 50, 46, 50, 46, 50, 32, 67, 111, 112, 121, 114, 105, 103, 104, 116, 32, 40, 99, 41, 32, 49, 57, 57, 55, 45, 50, 48, 48, 50, 32, 98, 121, 32, 83, 101, 99, 114, 101, 116, 32, 76, 97, 98, 115, 32, 65, 66, 32]) 0), (Value.bool true), (Value.bool false), (w "_sre" 271), (ni 29), (w "\x06Ĩ\x08__name__\x06ħ\x0c_collections\x06ĩ\x07__doc__\t\x1f_collections.__doc__:str#opaque\x06ī\x0b__package__\x06Ī\x00\x06Ĭ\n__loader__\x04\x00\x00\x0e\x06ĭ\x08__spec__\x04\x00\x00!\x06Į\x0f_count_elements\t\x1c_collections._count_elements\x06į\x05deque\x08\x11collections.deque\x06İ\x0bdefaultdict\x08\x17collections.defaultdict\x06ı\x0f_deque_iterator\x08\x1bcollections._deque_iterator\x06Ĳ\x17_deque_reverse_iterator\x08#collections._deque_reverse_iterator\x06ĳ\x0c_tuplegetter\x08\x18collections._tuplegetter\x06Ĵ\x0bOrderedDict\x08\x17collections.OrderedDict" 0), (Value.bool true), (Value.bool false), (w "_collections" 310)] 1) #[]),
  (tu [(w "deque" 277)]),
  (Obj.mk (Value.type "dict") none (Data.dict #[dk P "__name__" 296 (w "_collections" 295), dk P "__doc__" 297 (Value.builtin "off-the-table:_collections.__doc__:shared#opaque"), dk P "__package__" 299 (w "" 298), dk P "__loader__" 300 (Value.builtin "off-the-table:_collections.__loader__:shared#opaque"), dk P "__spec__" 301 (Value.builtin "off-the-table:_collections.__spec__:shared#opaque"), dk P "_count_elements" 302 (Value.builtin "_collections._count_elements"), dk P "deque" 303 (Value.type "collections.deque"), dk P "defaultdict" 304 (Value.type "collections.defaultdict"), dk P "_deque_iterator" 305 (Value.builtin "off-the-table:_collections._deque_iterator:shared#opaque"), dk P "_deque_reverse_iterator" 306 (Value.builtin "off-the-table:_collections._deque_reverse_iterator:shared#opaque"), dk P "_tuplegetter" 307 (Value.type "collections._tuplegetter"), dk P "OrderedDict" 308 (Value.type "collections.OrderedDict")] 12) #[]),
  (Obj.mk (Value.type "module") (some 29) Data.plain #[]),
  (Obj.mk (Value.type "list") none (Data.seq #[] 0) #[]),
  (Obj.mk (Value.type "dict") none (Data.dict #[dk P "name" 283 (w "_collections" 282), dk P "loader" 284 (vr 14), dk P "origin" 285 (w "built-in" 281), dk P "loader_state" 286 Value.none, dk P "submodule_search_locations" 287 Value.none, dk P "_uninitialized_submodules" 288 (vr 31), dk P "_set_fileattr" 289 (Value.bool false), dk P "_cached" 290 Value.none, dk P "_initializing" 291 (Value.bool false)] 9) #[]),
  (Obj.mk (vr 22) (some 32) Data.plain #[]),
  (tu []),
  (Obj.mk Value.none none (Data.fields #[(ni 3), (ni 0), (vr 43), (ni 10), (ni 0), (vr 60), (ni 13), (ni 0), (vr 67), (ni 18), (ni 0), (vr 74), (ni 25), (ni 0), (vr 81), (ni 27), (ni 0), (vr 94), (ni 34), (ni 0), (vr 116), (ni 36), (ni 0), (vr 128), (ni 38), (ni 0), (vr 140), (ni 208), (ni 0), (vr 370), (ni 414), (ni 0), (vr 617), (ni 435), (ni 0), (vr 624), (ni 440), (ni 0), (vr 631), (ni 445), (ni 0), (vr 638), (ni 448), (ni 0), (vr 645), (ni 468), (ni 0), (vr 652), (ni 477), (ni 0), (vr 659), (ni 730), (ni 0), (vr 754), (ni 740), (ni 0), (vr 761), (ni 748), (ni 0), (vr 768), (ni 759), (ni 0), (vr 775), (ni 761), (ni 0), (vr 782), (ni 766), (ni 0), (vr 787), (ni 775), (ni 0), (vr 794), (ni 780), (ni 0), (vr 799), (ni 789), (ni 0), (vr 804)]) #[]),
  (co "<module>" "<module>" 319 320 321 1 0 0 0 0 34 false 318 35 Value.none Value.none Value.none Value.none 322 323),
  (Obj.mk (Value.type "frame") none Data.plain #[(some (vr 36)), (some (vr 3)), (some (vr 3)), none, (some (w "__main__" 164)), none, (some (vr 0))]),
  (tu []),
  em,
  (tu [(w "k" 327)]),
  (tu []),
  (pf "_wall" "_wall" (sA 2)),
  (co "_wall" "_wall" 324 325 326 3 1 0 0 3 38 true 318 39 Value.none (vr 40) (vr 41) (vr 42) 328 329),
  (fu "_wall" "_wall" (sA 2) Value.none Value.none "__main__" 164 43),
  (Obj.mk (Value.type "list") none (Data.seq #[(vi 14 336), (vi 4 337), (vi 0 338), (vi 1 339), (vi 1 340), (vi 6 341), (vi 1 342), (vi 16 343), (vi 46 344), (vi 1 345)] 0) #[]),
  (Obj.mk (Value.type "dict") none (Data.dict #[] 0) #[]),
  (tu [Value.none]),
  (tu [(ni 14), (ni 4), (ni 0), (ni 1), (ni 1), (ni 6), (ni 1), (ni 16), (ni 46), (ni 1)]),
  (Obj.mk (Value.type "re.Pattern") none (Data.fields #[(w "(?m)^\\." 334), (vi 40 347), (ni 0), Value.none, Value.none, (vr 48), (ni 0)]) #[]),
  (Obj.mk (Value.type "list") none (Data.seq #[(vi 14 352), (vi 9 353), (vi 4 354), (vi 1 355), (vi 2 356), (vi 16 357), (vi 10 358), (vi 16 359), (vi 13 360), (vi 0 361), (vi 7 362), (vi 7 363), (vi 16 364), (vi 13 365), (vi 16 366), (vi 10 367), (vi 15 368), (vi 18 369), (vi 5 370), (vi 16 371), (vi 10 372), (vi 15 373), (vi 13 374), (vi 11 375), (vi 16 376), (vi 13 377), (vi 5 378), (vi 5 379), (vi 0 380), (vi 16 381), (vi 10 382), (vi 1 383), (vi 15 384), (vi 2 385), (vi 0 386), (vi 1 387)] 0) #[]),
  (Obj.mk (Value.type "dict") none (Data.dict #[] 0) #[]),
  (tu [Value.none]),
  (tu [(ni 14), (ni 9), (ni 4), (ni 1), (ni 2), (ni 16), (ni 10), (ni 16), (ni 13), (ni 0), (ni 7), (ni 7), (ni 16), (ni 13), (ni 16), (ni 10), (ni 15), (ni 18), (ni 5), (ni 16), (ni 10), (ni 15), (ni 13), (ni 11), (ni 16), (ni 13), (ni 5), (ni 5), (ni 0), (ni 16), (ni 10), (ni 1), (ni 15), (ni 2), (ni 0), (ni 1)]),
  (Obj.mk (Value.type "re.Pattern") none (Data.fields #[(w "(?:\\r\\n|\\n|\\r(?!\\n))" 350), (vi 32 389), (ni 0), Value.none, Value.none, (vr 53), (ni 0)]) #[]),
  (tu []),
  em,
  (tu [(w "data" 396)]),
  (tu []),
  (pf "quotedata" "quotedata" (sA 7)),
  (co "quotedata" "quotedata" 393 394 395 10 1 0 0 3 55 true 318 56 Value.none (vr 57) (vr 58) (vr 59) 397 398),
  (fu "quotedata" "quotedata" (sA 7) Value.none Value.none "cpy313.smtplib" 331 60),
  (tu []),
  em,
  (tu [(w "n" 405), (w "what" 406)]),
  (tu []),
  (pf "_whence" "_whence" (sA 9)),
  (co "_whence" "_whence" 402 403 404 13 2 0 0 3 62 true 318 63 Value.none (vr 64) (vr 65) (vr 66) 407 408),
  (fu "_whence" "_whence" (sA 9) Value.none Value.none "io" 400 67),
  (tu []),
  em,
  (tu [(w "n" 413), (w "what" 414)]),
  (tu []),
  (pf "_index" "_index" (sA 10)),
  (co "_index" "_index" 410 411 412 18 2 0 0 3 69 true 318 70 Value.none (vr 71) (vr 72) (vr 73) 415 416),
  (fu "_index" "_index" (sA 10) Value.none Value.none "io" 400 74),
  (tu [(Value.type "OSError"), (Value.type "ValueError")]),
  ob0 P,
  (Obj.mk (Value.type "dict") none (Data.dict #[dk P "__module__" 425 (w "io" 430), dk P "__qualname__" 427 (w "UnsupportedOperation" 426), dk P "__firstlineno__" 429 (vi 25 428), dk P "__static_attributes__" 432 (vr 83)] 4) #[]),
  (tu []),
  em,
  (co "UnsupportedOperation" "UnsupportedOperation" 420 421 422 25 0 0 0 0 79 false 318 80 Value.none Value.none Value.none Value.none 423 424),
  (Obj.mk (Value.type "frame") none Data.plain #[(some (vr 81)), (some (vr 3)), (some (vr 78)), none, (some (w "io" 400)), none, (some (vr 0))]),
  (tu []),
  (Obj.mk (Value.type "dict") none (Data.dict #[dk P "__module__" 425 (w "io" 430), dk P "__firstlineno__" 429 (vi 25 428), dk P "__static_attributes__" 432 (vr 83), dk P "__weakref__" 434 (vr 86), dk P "__doc__" 435 Value.none] 3) #[]),
  (Obj.mk (Value.type "type") none (Data.cls (ClassData.mk (o "UnsupportedOperation") [(Value.type "OSError"), (Value.type "ValueError")] [(vr 85), (Value.type "OSError"), (Value.type "ValueError"), (Value.type "Exception"), (Value.type "BaseException"), (Value.type "object")] 84 (o "UnsupportedOperation") true [] [] false none false)) #[(some (vr 76)), none, (some (w "UnsupportedOperation" 418)), (some (w "UnsupportedOperation" 426)), (some (Value.builtin "OSError.__new__")), (some (Value.bool true))]),
  (Obj.mk (Value.type "getset_descriptor") none (Data.fields #[(w "__weakref__" 433), (vr 85), (Value.builtin "ExceptionGroup.__weakref__"), Value.none]) #[]),
  (Obj.mk (Value.type "super") none (Data.fields #[(vr 85), (vr 85), (vr 85)]) #[]),
  (Obj.mk (Value.type "builtin_function_or_method") none (Data.fields #[(Value.builtin "object.__init_subclass__"), (vr 85)]) #[]),
  (tu []),
  ob0 P,
  (Obj.mk (Value.type "dict") none (Data.dict #[dk P "__module__" 447 (w "io" 452), dk P "__qualname__" 449 (w "IOBase" 448), dk P "__firstlineno__" 451 (vi 27 450), dk P "__new__" 462 (vr 102), dk P "__static_attributes__" 463 (vr 103)] 5) #[]),
  (tu []),
  (Obj.mk Value.none none (Data.fields #[(ni 30), (ni 4), (vr 101)]) #[]),
  (co "IOBase" "IOBase" 442 443 444 27 0 0 0 0 92 false 318 93 Value.none Value.none Value.none Value.none 445 446),
  (Obj.mk (Value.type "frame") none Data.plain #[(some (vr 94)), (some (vr 3)), (some (vr 91)), none, (some (w "io" 400)), none, (some (vr 0))]),
  (tu []),
  em,
  (tu [(w "cls" 457), (w "args" 458), (w "kwargs" 459)]),
  (tu []),
  (pf "__new__" "IOBase.__new__" (sM 12 1)),
  (co "__new__" "IOBase.__new__" 454 455 456 30 1 1 0 15 96 true 318 97 Value.none (vr 98) (vr 99) (vr 100) 460 461),
  (fu "__new__" "IOBase.__new__" (sM 12 1) Value.none Value.none "io" 400 101),
  (tu []),
  (Obj.mk (Value.type "dict") none (Data.dict #[dk P "__module__" 447 (w "io" 452), dk P "__firstlineno__" 451 (vi 27 450), dk P "__new__" 462 (vr 106), dk P "__static_attributes__" 463 (vr 103), dk P "__dict__" 466 (vr 107), dk P "__weakref__" 468 (vr 108), dk P "__doc__" 469 Value.none] 4) #[]),
  (Obj.mk (Value.type "type") none (Data.cls (ClassData.mk (o "IOBase") [(Value.type "object")] [(vr 105), (Value.type "object")] 104 (o "IOBase") true [] [(vr 120), (vr 132)] false none false)) #[none, none, (some (w "IOBase" 440)), (some (w "IOBase" 448)), (some Value.none), (some (Value.bool true))]),
  (Obj.mk (Value.type "staticmethod") none (Data.fields #[(vr 102)]) #[]),
  (Obj.mk (Value.type "getset_descriptor") none (Data.fields #[(w "__dict__" 465), (vr 105), (Value.builtin "function.__dict__"), (Value.builtin "function.__dict__#set")]) #[]),
  (Obj.mk (Value.type "getset_descriptor") none (Data.fields #[(w "__weakref__" 467), (vr 105), (Value.builtin "ExceptionGroup.__weakref__"), Value.none]) #[]),
  (Obj.mk (Value.type "super") none (Data.fields #[(vr 105), (vr 105), (vr 105)]) #[]),
  (Obj.mk (Value.type "builtin_function_or_method") none (Data.fields #[(Value.builtin "object.__init_subclass__"), (vr 105)]) #[]),
  (tu [(vr 105)]),
  ob0 P,
  (Obj.mk (Value.type "dict") none (Data.dict #[dk P "__module__" 479 (w "io" 484), dk P "__qualname__" 481 (w "BufferedIOBase" 480), dk P "__firstlineno__" 483 (vi 34 482), dk P "__static_attributes__" 486 (vr 118)] 4) #[]),
  (tu []),
  em,
  (co "BufferedIOBase" "BufferedIOBase" 474 475 476 34 0 0 0 0 114 false 318 115 Value.none Value.none Value.none Value.none 477 478),
  (Obj.mk (Value.type "frame") none Data.plain #[(some (vr 116)), (some (vr 3)), (some (vr 113)), none, (some (w "io" 400)), none, (some (vr 0))]),
  (tu []),
  (Obj.mk (Value.type "dict") none (Data.dict #[dk P "__module__" 479 (w "io" 484), dk P "__firstlineno__" 483 (vi 34 482), dk P "__static_attributes__" 486 (vr 118), dk P "__doc__" 487 Value.none] 2) #[]),
  (Obj.mk (Value.type "type") none (Data.cls (ClassData.mk (o "BufferedIOBase") [(vr 105)] [(vr 120), (vr 105), (Value.type "object")] 119 (o "BufferedIOBase") true [] [(vr 362)] false none false)) #[(some (vr 111)), none, (some (w "BufferedIOBase" 472)), (some (w "BufferedIOBase" 480)), (some Value.none), (some (Value.bool true))]),
  (Obj.mk (Value.type "super") none (Data.fields #[(vr 120), (vr 120), (vr 120)]) #[]),
  (Obj.mk (Value.type "builtin_function_or_method") none (Data.fields #[(Value.builtin "object.__init_subclass__"), (vr 120)]) #[]),
  (tu [(vr 105)]),
  ob0 P,
  (Obj.mk (Value.type "dict") none (Data.dict #[dk P "__module__" 497 (w "io" 502), dk P "__qualname__" 499 (w "TextIOBase" 498), dk P "__firstlineno__" 501 (vi 36 500), dk P "__static_attributes__" 504 (vr 130)] 4) #[]),
  (tu []),
  em,
  (co "TextIOBase" "TextIOBase" 492 493 494 36 0 0 0 0 126 false 318 127 Value.none Value.none Value.none Value.none 495 496),
  (Obj.mk (Value.type "frame") none Data.plain #[(some (vr 128)), (some (vr 3)), (some (vr 125)), none, (some (w "io" 400)), none, (some (vr 0))]),
  (tu []),
  (Obj.mk (Value.type "dict") none (Data.dict #[dk P "__module__" 497 (w "io" 502), dk P "__firstlineno__" 501 (vi 36 500), dk P "__static_attributes__" 504 (vr 130), dk P "__doc__" 505 Value.none] 2) #[]),
  (Obj.mk (Value.type "type") none (Data.cls (ClassData.mk (o "TextIOBase") [(vr 105)] [(vr 132), (vr 105), (Value.type "object")] 131 (o "TextIOBase") true [] [(vr 609)] false none false)) #[(some (vr 123)), none, (some (w "TextIOBase" 490)), (some (w "TextIOBase" 498)), (some Value.none), (some (Value.bool true))]),
  (Obj.mk (Value.type "super") none (Data.fields #[(vr 132), (vr 132), (vr 132)]) #[]),
  (Obj.mk (Value.type "builtin_function_or_method") none (Data.fields #[(Value.builtin "object.__init_subclass__"), (vr 132)]) #[]),
  (tu [(vr 120)]),
  ob0 P,
  (Obj.mk (Value.type "dict") none (Data.dict #[dk P "__module__" 515 (w "_io" 520), dk P "__qualname__" 517 (w "BytesIO" 516), dk P "__firstlineno__" 519 (vi 38 518), dk P "__init__" 529 (vr 149), dk P "_BytesIO__check" 536 (vr 156), dk P "_BytesIO__line" 547 (vr 163), dk P "closed" 555 (vr 171), dk P "close" 562 (vr 178), dk P "__enter__" 569 (vr 185), dk P "__exit__" 577 (vr 192), dk P "readable" 584 (vr 199), dk P "writable" 591 (vr 206), dk P "seekable" 598 (vr 213), dk P "isatty" 605 (vr 220), dk P "flush" 612 (vr 227), dk P "fileno" 619 (vr 234), dk P "detach" 626 (vr 241), dk P "getvalue" 633 (vr 248), dk P "getbuffer" 640 (vr 255), dk P "tell" 647 (vr 262), dk P "seek" 657 (vr 270), dk P "truncate" 665 (vr 278), dk P "read" 677 (vr 286), dk P "read1" 687 (vr 294), dk P "readinto" 697 (vr 301), dk P "readinto1" 705 (vr 308), dk P "readline" 715 (vr 316), dk P "readlines" 723 (vr 324), dk P "__iter__" 730 (vr 331), dk P "__next__" 738 (vr 338), dk P "write" 748 (vr 345), dk P "writelines" 756 (vr 352), dk P "__repr__" 763 (vr 359), dk P "__static_attributes__" 766 (vr 360)] 34) #[]),
  (tu []),
  (Obj.mk Value.none none (Data.fields #[(ni 41), (ni 4), (vr 148), (ni 47), (ni 4), (vr 155), (ni 51), (ni 4), (vr 162), (ni 65), (ni 4), (vr 169), (ni 68), (ni 4), (vr 177), (ni 71), (ni 4), (vr 184), (ni 75), (ni 4), (vr 191), (ni 78), (ni 4), (vr 198), (ni 82), (ni 4), (vr 205), (ni 86), (ni 4), (vr 212), (ni 90), (ni 4), (vr 219), (ni 94), (ni 4), (vr 226), (ni 97), (ni 4), (vr 233), (ni 100), (ni 4), (vr 240), (ni 103), (ni 4), (vr 247), (ni 106), (ni 4), (vr 254), (ni 109), (ni 4), (vr 261), (ni 113), (ni 4), (vr 269), (ni 130), (ni 4), (vr 277), (ni 133), (ni 4), (vr 285), (ni 147), (ni 4), (vr 293), (ni 150), (ni 4), (vr 300), (ni 164), (ni 4), (vr 307), (ni 167), (ni 4), (vr 315), (ni 174), (ni 4), (vr 323), (ni 177), (ni 4), (vr 330), (ni 180), (ni 4), (vr 337), (ni 187), (ni 4), (vr 344), (ni 203), (ni 4), (vr 351), (ni 206), (ni 4), (vr 358)]) #[]),
  (co "BytesIO" "BytesIO" 510 511 512 38 0 0 0 0 138 false 318 139 Value.none Value.none Value.none Value.none 513 514),
  (Obj.mk (Value.type "frame") none Data.plain #[(some (vr 140)), (some (vr 3)), (some (vr 137)), none, (some (w "io" 400)), none, (some (vr 0))]),
  (tu [Value.none]),
  (tu []),
  em,
  (tu [(w "self" 525), (w "initial_bytes" 526)]),
  (tu []),
  (pf "__init__" "BytesIO.__init__" (sM 15 1)),
  (co "__init__" "BytesIO.__init__" 522 523 524 41 2 0 0 3 143 true 318 144 Value.none (vr 145) (vr 146) (vr 147) 527 528),
  (fu "__init__" "BytesIO.__init__" (sM 15 1) (vr 142) Value.none "io" 400 148),
  (tu []),
  em,
  (tu [(w "self" 533)]),
  (tu []),
  (pf "__check" "BytesIO.__check" (sM 15 2)),
  (co "__check" "BytesIO.__check" 530 531 532 47 1 0 0 3 150 true 318 151 Value.none (vr 152) (vr 153) (vr 154) 534 535),
  (fu "__check" "BytesIO.__check" (sM 15 2) Value.none Value.none "io" 400 155),
  (tu []),
  em,
  (tu [(w "self" 540), (w "limit" 541), (w "start" 542), (w "stop" 543), (w "i" 544)]),
  (tu []),
  (pf "__line" "BytesIO.__line" (sM 15 3)),
  (co "__line" "BytesIO.__line" 537 538 539 51 2 0 0 3 157 true 318 158 Value.none (vr 159) (vr 160) (vr 161) 545 546),
  (fu "__line" "BytesIO.__line" (sM 15 3) Value.none Value.none "io" 400 162),
  (tu []),
  em,
  (tu [(w "self" 551)]),
  (tu []),
  (pf "closed" "BytesIO.closed" (sM 15 4)),
  (co "closed" "BytesIO.closed" 548 549 550 64 1 0 0 3 164 true 318 165 Value.none (vr 166) (vr 167) (vr 168) 552 553),
  (fu "closed" "BytesIO.closed" (sM 15 4) Value.none Value.none "io" 400 169),
  (Obj.mk (Value.type "property") none (Data.fields #[(vr 170), Value.none, Value.none, Value.none, (w "closed" 555), (Value.bool false)]) #[]),
  (tu []),
  em,
  (tu [(w "self" 559)]),
  (tu []),
  (pf "close" "BytesIO.close" (sM 15 5)),
  (co "close" "BytesIO.close" 556 557 558 68 1 0 0 3 172 true 318 173 Value.none (vr 174) (vr 175) (vr 176) 560 561),
  (fu "close" "BytesIO.close" (sM 15 5) Value.none Value.none "io" 400 177),
  (tu []),
  em,
  (tu [(w "self" 566)]),
  (tu []),
  (pf "__enter__" "BytesIO.__enter__" (sM 15 6)),
  (co "__enter__" "BytesIO.__enter__" 563 564 565 71 1 0 0 3 179 true 318 180 Value.none (vr 181) (vr 182) (vr 183) 567 568),
  (fu "__enter__" "BytesIO.__enter__" (sM 15 6) Value.none Value.none "io" 400 184),
  (tu []),
  em,
  (tu [(w "self" 573), (w "args" 574)]),
  (tu []),
  (pf "__exit__" "BytesIO.__exit__" (sM 15 7)),
  (co "__exit__" "BytesIO.__exit__" 570 571 572 75 1 0 0 7 186 true 318 187 Value.none (vr 188) (vr 189) (vr 190) 575 576),
  (fu "__exit__" "BytesIO.__exit__" (sM 15 7) Value.none Value.none "io" 400 191),
  (tu []),
  em,
  (tu [(w "self" 581)]),
  (tu []),
  (pf "readable" "BytesIO.readable" (sM 15 8)),
  (co "readable" "BytesIO.readable" 578 579 580 78 1 0 0 3 193 true 318 194 Value.none (vr 195) (vr 196) (vr 197) 582 583),
  (fu "readable" "BytesIO.readable" (sM 15 8) Value.none Value.none "io" 400 198),
  (tu []),
  em,
  (tu [(w "self" 588)]),
  (tu []),
  (pf "writable" "BytesIO.writable" (sM 15 9)),
  (co "writable" "BytesIO.writable" 585 586 587 82 1 0 0 3 200 true 318 201 Value.none (vr 202) (vr 203) (vr 204) 589 590),
  (fu "writable" "BytesIO.writable" (sM 15 9) Value.none Value.none "io" 400 205),
  (tu []),
  em,
  (tu [(w "self" 595)]),
  (tu []),
  (pf "seekable" "BytesIO.seekable" (sM 15 10)),
  (co "seekable" "BytesIO.seekable" 592 593 594 86 1 0 0 3 207 true 318 208 Value.none (vr 209) (vr 210) (vr 211) 596 597),
  (fu "seekable" "BytesIO.seekable" (sM 15 10) Value.none Value.none "io" 400 212),
  (tu []),
  em,
  (tu [(w "self" 602)]),
  (tu []),
  (pf "isatty" "BytesIO.isatty" (sM 15 11)),
  (co "isatty" "BytesIO.isatty" 599 600 601 90 1 0 0 3 214 true 318 215 Value.none (vr 216) (vr 217) (vr 218) 603 604),
  (fu "isatty" "BytesIO.isatty" (sM 15 11) Value.none Value.none "io" 400 219),
  (tu []),
  em,
  (tu [(w "self" 609)]),
  (tu []),
  (pf "flush" "BytesIO.flush" (sM 15 12)),
  (co "flush" "BytesIO.flush" 606 607 608 94 1 0 0 3 221 true 318 222 Value.none (vr 223) (vr 224) (vr 225) 610 611),
  (fu "flush" "BytesIO.flush" (sM 15 12) Value.none Value.none "io" 400 226),
  (tu []),
  em,
  (tu [(w "self" 616)]),
  (tu []),
  (pf "fileno" "BytesIO.fileno" (sM 15 13)),
  (co "fileno" "BytesIO.fileno" 613 614 615 97 1 0 0 3 228 true 318 229 Value.none (vr 230) (vr 231) (vr 232) 617 618),
  (fu "fileno" "BytesIO.fileno" (sM 15 13) Value.none Value.none "io" 400 233),
  (tu []),
  em,
  (tu [(w "self" 623)]),
  (tu []),
  (pf "detach" "BytesIO.detach" (sM 15 14)),
  (co "detach" "BytesIO.detach" 620 621 622 100 1 0 0 3 235 true 318 236 Value.none (vr 237) (vr 238) (vr 239) 624 625),
  (fu "detach" "BytesIO.detach" (sM 15 14) Value.none Value.none "io" 400 240),
  (tu []),
  em,
  (tu [(w "self" 630)]),
  (tu []),
  (pf "getvalue" "BytesIO.getvalue" (sM 15 15)),
  (co "getvalue" "BytesIO.getvalue" 627 628 629 103 1 0 0 3 242 true 318 243 Value.none (vr 244) (vr 245) (vr 246) 631 632),
  (fu "getvalue" "BytesIO.getvalue" (sM 15 15) Value.none Value.none "io" 400 247),
  (tu []),
  em,
  (tu [(w "self" 637)]),
  (tu []),
  (pf "getbuffer" "BytesIO.getbuffer" (sM 15 16)),
  (co "getbuffer" "BytesIO.getbuffer" 634 635 636 106 1 0 0 3 249 true 318 250 Value.none (vr 251) (vr 252) (vr 253) 638 639),
  (fu "getbuffer" "BytesIO.getbuffer" (sM 15 16) Value.none Value.none "io" 400 254),
  (tu []),
  em,
  (tu [(w "self" 644)]),
  (tu []),
  (pf "tell" "BytesIO.tell" (sM 15 17)),
  (co "tell" "BytesIO.tell" 641 642 643 109 1 0 0 3 256 true 318 257 Value.none (vr 258) (vr 259) (vr 260) 645 646),
  (fu "tell" "BytesIO.tell" (sM 15 17) Value.none Value.none "io" 400 261),
  (tu [(vi 0 648)]),
  (tu []),
  em,
  (tu [(w "self" 652), (w "pos" 653), (w "whence" 654)]),
  (tu []),
  (pf "seek" "BytesIO.seek" (sM 15 18)),
  (co "seek" "BytesIO.seek" 649 650 651 113 3 3 0 3 264 true 318 265 Value.none (vr 266) (vr 267) (vr 268) 655 656),
  (fu "seek" "BytesIO.seek" (sM 15 18) (vr 263) Value.none "io" 400 269),
  (tu [Value.none]),
  (tu []),
  em,
  (tu [(w "self" 661), (w "size" 662)]),
  (tu []),
  (pf "truncate" "BytesIO.truncate" (sM 15 19)),
  (co "truncate" "BytesIO.truncate" 658 659 660 130 2 2 0 3 272 true 318 273 Value.none (vr 274) (vr 275) (vr 276) 663 664),
  (fu "truncate" "BytesIO.truncate" (sM 15 19) (vr 271) Value.none "io" 400 277),
  (tu [(vi (-1) 667)]),
  (tu []),
  em,
  (tu [(w "self" 671), (w "size" 672), (w "start" 673), (w "stop" 674)]),
  (tu []),
  (pf "read" "BytesIO.read" (sM 15 20)),
  (co "read" "BytesIO.read" 668 669 670 133 2 2 0 3 280 true 318 281 Value.none (vr 282) (vr 283) (vr 284) 675 676),
  (fu "read" "BytesIO.read" (sM 15 20) (vr 279) Value.none "io" 400 285),
  (tu [(vi (-1) 679)]),
  (tu []),
  em,
  (tu [(w "self" 683), (w "size" 684)]),
  (tu []),
  (pf "read1" "BytesIO.read1" (sM 15 21)),
  (co "read1" "BytesIO.read1" 680 681 682 147 2 2 0 3 288 true 318 289 Value.none (vr 290) (vr 291) (vr 292) 685 686),
  (fu "read1" "BytesIO.read1" (sM 15 21) (vr 287) Value.none "io" 400 293),
  (tu []),
  em,
  (tu [(w "self" 691), (w "buffer" 692), (w "start" 693), (w "n" 694)]),
  (tu []),
  (pf "readinto" "BytesIO.readinto" (sM 15 22)),
  (co "readinto" "BytesIO.readinto" 688 689 690 150 2 2 0 3 295 true 318 296 Value.none (vr 297) (vr 298) (vr 299) 695 696),
  (fu "readinto" "BytesIO.readinto" (sM 15 22) Value.none Value.none "io" 400 300),
  (tu []),
  em,
  (tu [(w "self" 701), (w "buffer" 702)]),
  (tu []),
  (pf "readinto1" "BytesIO.readinto1" (sM 15 23)),
  (co "readinto1" "BytesIO.readinto1" 698 699 700 164 2 2 0 3 302 true 318 303 Value.none (vr 304) (vr 305) (vr 306) 703 704),
  (fu "readinto1" "BytesIO.readinto1" (sM 15 23) Value.none Value.none "io" 400 307),
  (tu [(vi (-1) 707)]),
  (tu []),
  em,
  (tu [(w "self" 711), (w "size" 712)]),
  (tu []),
  (pf "readline" "BytesIO.readline" (sM 15 24)),
  (co "readline" "BytesIO.readline" 708 709 710 167 2 2 0 3 310 true 318 311 Value.none (vr 312) (vr 313) (vr 314) 713 714),
  (fu "readline" "BytesIO.readline" (sM 15 24) (vr 309) Value.none "io" 400 315),
  (tu [Value.none]),
  (tu []),
  em,
  (tu [(w "self" 719), (w "size" 720)]),
  (tu []),
  (pf "readlines" "BytesIO.readlines" (sM 15 25)),
  (co "readlines" "BytesIO.readlines" 716 717 718 174 2 2 0 3 318 true 318 319 Value.none (vr 320) (vr 321) (vr 322) 721 722),
  (fu "readlines" "BytesIO.readlines" (sM 15 25) (vr 317) Value.none "io" 400 323),
  (tu []),
  em,
  (tu [(w "self" 727)]),
  (tu []),
  (pf "__iter__" "BytesIO.__iter__" (sM 15 26)),
  (co "__iter__" "BytesIO.__iter__" 724 725 726 177 1 0 0 3 325 true 318 326 Value.none (vr 327) (vr 328) (vr 329) 728 729),
  (fu "__iter__" "BytesIO.__iter__" (sM 15 26) Value.none Value.none "io" 400 330),
  (tu []),
  em,
  (tu [(w "self" 734), (w "line" 735)]),
  (tu []),
  (pf "__next__" "BytesIO.__next__" (sM 15 27)),
  (co "__next__" "BytesIO.__next__" 731 732 733 180 1 0 0 3 332 true 318 333 Value.none (vr 334) (vr 335) (vr 336) 736 737),
  (fu "__next__" "BytesIO.__next__" (sM 15 27) Value.none Value.none "io" 400 337),
  (tu []),
  em,
  (tu [(w "self" 742), (w "b" 743), (w "n" 744), (w "start" 745)]),
  (tu []),
  (pf "write" "BytesIO.write" (sM 15 28)),
  (co "write" "BytesIO.write" 739 740 741 187 2 2 0 3 339 true 318 340 Value.none (vr 341) (vr 342) (vr 343) 746 747),
  (fu "write" "BytesIO.write" (sM 15 28) Value.none Value.none "io" 400 344),
  (tu []),
  em,
  (tu [(w "self" 752), (w "lines" 753)]),
  (tu []),
  (pf "writelines" "BytesIO.writelines" (sM 15 29)),
  (co "writelines" "BytesIO.writelines" 749 750 751 203 2 2 0 3 346 true 318 347 Value.none (vr 348) (vr 349) (vr 350) 754 755),
  (fu "writelines" "BytesIO.writelines" (sM 15 29) Value.none Value.none "io" 400 351),
  (tu []),
  em,
  (tu [(w "self" 760)]),
  (tu []),
  (pf "__repr__" "BytesIO.__repr__" (sM 15 30)),
  (co "__repr__" "BytesIO.__repr__" 757 758 759 206 1 0 0 3 353 true 318 354 Value.none (vr 355) (vr 356) (vr 357) 761 762),
  (fu "__repr__" "BytesIO.__repr__" (sM 15 30) Value.none Value.none "io" 400 358),
  (tu [(w "__buf" 764), (w "__pos" 765)]),
  (Obj.mk (Value.type "dict") none (Data.dict #[dk P "__module__" 515 (w "_io" 520), dk P "__firstlineno__" 519 (vi 38 518), dk P "__init__" 529 (vr 149), dk P "_BytesIO__check" 536 (vr 156), dk P "_BytesIO__line" 547 (vr 163), dk P "closed" 555 (vr 171), dk P "close" 562 (vr 178), dk P "__enter__" 569 (vr 185), dk P "__exit__" 577 (vr 192), dk P "readable" 584 (vr 199), dk P "writable" 591 (vr 206), dk P "seekable" 598 (vr 213), dk P "isatty" 605 (vr 220), dk P "flush" 612 (vr 227), dk P "fileno" 619 (vr 234), dk P "detach" 626 (vr 241), dk P "getvalue" 633 (vr 248), dk P "getbuffer" 640 (vr 255), dk P "tell" 647 (vr 262), dk P "seek" 657 (vr 270), dk P "truncate" 665 (vr 278), dk P "read" 677 (vr 286), dk P "read1" 687 (vr 294), dk P "readinto" 697 (vr 301), dk P "readinto1" 705 (vr 308), dk P "readline" 715 (vr 316), dk P "readlines" 723 (vr 324), dk P "__iter__" 730 (vr 331), dk P "__next__" 738 (vr 338), dk P "write" 748 (vr 345), dk P "writelines" 756 (vr 352), dk P "__repr__" 763 (vr 359), dk P "__static_attributes__" 766 (vr 360), dk P "__doc__" 767 Value.none] 2) #[]),
  (Obj.mk (Value.type "type") none (Data.cls (ClassData.mk (o "BytesIO") [(vr 120)] [(vr 362), (vr 120), (vr 105), (Value.type "object")] 361 (o "BytesIO") true [] [] false none false)) #[(some (vr 135)), none, (some (w "BytesIO" 508)), (some (w "BytesIO" 516)), (some Value.none), (some (Value.bool true))]),
  (Obj.mk (Value.type "super") none (Data.fields #[(vr 362), (vr 362), (vr 362)]) #[]),
  (Obj.mk (Value.type "builtin_function_or_method") none (Data.fields #[(Value.builtin "object.__init_subclass__"), (vr 362)]) #[]),
  (tu [(vr 132)]),
  ob0 P,
  (Obj.mk (Value.type "dict") none (Data.dict #[dk P "__module__" 777 (w "_io" 782), dk P "__qualname__" 779 (w "StringIO" 778), dk P "__firstlineno__" 781 (vi 208 780), dk P "__init__" 794 (vr 379), dk P "_StringIO__translated" 803 (vr 386), dk P "_StringIO__check" 810 (vr 393), dk P "_StringIO__check_dot" 817 (vr 400), dk P "_StringIO__line" 832 (vr 407), dk P "closed" 840 (vr 415), dk P "line_buffering" 848 (vr 423), dk P "newlines" 856 (vr 431), dk P "encoding" 864 (vr 439), dk P "errors" 872 (vr 447), dk P "close" 879 (vr 454), dk P "__enter__" 886 (vr 461), dk P "__exit__" 894 (vr 468), dk P "readable" 901 (vr 475), dk P "writable" 908 (vr 482), dk P "seekable" 915 (vr 489), dk P "isatty" 922 (vr 496), dk P "flush" 929 (vr 503), dk P "fileno" 936 (vr 510), dk P "detach" 943 (vr 517), dk P "getvalue" 950 (vr 524), dk P "tell" 957 (vr 531), dk P "seek" 967 (vr 539), dk P "truncate" 975 (vr 547), dk P "read" 987 (vr 555), dk P "readline" 997 (vr 563), dk P "readlines" 1007 (vr 571), dk P "__iter__" 1014 (vr 578), dk P "__next__" 1022 (vr 585), dk P "write" 1034 (vr 592), dk P "writelines" 1042 (vr 599), dk P "__repr__" 1049 (vr 606), dk P "__static_attributes__" 1053 (vr 607)] 36) #[]),
  (tu []),
  (Obj.mk Value.none none (Data.fields #[(ni 211), (ni 4), (vr 378), (ni 224), (ni 4), (vr 385), (ni 232), (ni 4), (vr 392), (ni 236), (ni 4), (vr 399), (ni 240), (ni 4), (vr 406), (ni 273), (ni 4), (vr 413), (ni 277), (ni 4), (vr 421), (ni 281), (ni 4), (vr 429), (ni 285), (ni 4), (vr 437), (ni 289), (ni 4), (vr 445), (ni 292), (ni 4), (vr 453), (ni 295), (ni 4), (vr 460), (ni 299), (ni 4), (vr 467), (ni 302), (ni 4), (vr 474), (ni 306), (ni 4), (vr 481), (ni 310), (ni 4), (vr 488), (ni 314), (ni 4), (vr 495), (ni 318), (ni 4), (vr 502), (ni 321), (ni 4), (vr 509), (ni 324), (ni 4), (vr 516), (ni 327), (ni 4), (vr 523), (ni 330), (ni 4), (vr 530), (ni 334), (ni 4), (vr 538), (ni 351), (ni 4), (vr 546), (ni 354), (ni 4), (vr 554), (ni 368), (ni 4), (vr 562), (ni 375), (ni 4), (vr 570), (ni 378), (ni 4), (vr 577), (ni 382), (ni 4), (vr 584), (ni 389), (ni 4), (vr 591), (ni 408), (ni 4), (vr 598), (ni 411), (ni 4), (vr 605)]) #[]),
  (co "StringIO" "StringIO" 772 773 774 208 0 0 0 0 368 false 318 369 Value.none Value.none Value.none Value.none 775 776),
  (Obj.mk (Value.type "frame") none Data.plain #[(some (vr 370)), (some (vr 3)), (some (vr 367)), none, (some (w "io" 400)), none, (some (vr 0))]),
  (tu [(w "" 784), (w "\n" 785)]),
  (tu []),
  em,
  (tu [(w "self" 789), (w "initial_value" 790), (w "newline" 791)]),
  (tu []),
  (pf "__init__" "StringIO.__init__" (sM 16 1)),
  (co "__init__" "StringIO.__init__" 786 787 788 211 3 0 0 3 373 true 318 374 Value.none (vr 375) (vr 376) (vr 377) 792 793),
  (fu "__init__" "StringIO.__init__" (sM 16 1) (vr 372) Value.none "io" 400 378),
  (tu []),
  em,
  (tu [(w "self" 798), (w "s" 799), (w "newline" 800)]),
  (tu []),
  (pf "__translated" "StringIO.__translated" (sM 16 2)),
  (co "__translated" "StringIO.__translated" 795 796 797 224 2 0 0 3 380 true 318 381 Value.none (vr 382) (vr 383) (vr 384) 801 802),
  (fu "__translated" "StringIO.__translated" (sM 16 2) Value.none Value.none "io" 400 385),
  (tu []),
  em,
  (tu [(w "self" 807)]),
  (tu []),
  (pf "__check" "StringIO.__check" (sM 16 3)),
  (co "__check" "StringIO.__check" 804 805 806 232 1 0 0 3 387 true 318 388 Value.none (vr 389) (vr 390) (vr 391) 808 809),
  (fu "__check" "StringIO.__check" (sM 16 3) Value.none Value.none "io" 400 392),
  (tu []),
  em,
  (tu [(w "self" 814)]),
  (tu []),
  (pf "__check_dot" "StringIO.__check_dot" (sM 16 4)),
  (co "__check_dot" "StringIO.__check_dot" 811 812 813 236 1 0 0 3 394 true 318 395 Value.none (vr 396) (vr 397) (vr 398) 815 816),
  (fu "__check_dot" "StringIO.__check_dot" (sM 16 4) Value.none Value.none "io" 400 399),
  (tu []),
  em,
  (tu [(w "self" 821), (w "limit" 822), (w "start" 823), (w "stop" 824), (w "cut" 825), (w "newline" 826), (w "i" 827), (w "j" 828), (w "end" 829)]),
  (tu []),
  (pf "__line" "StringIO.__line" (sM 16 5)),
  (co "__line" "StringIO.__line" 818 819 820 240 2 0 0 3 401 true 318 402 Value.none (vr 403) (vr 404) (vr 405) 830 831),
  (fu "__line" "StringIO.__line" (sM 16 5) Value.none Value.none "io" 400 406),
  (tu []),
  em,
  (tu [(w "self" 836)]),
  (tu []),
  (pf "closed" "StringIO.closed" (sM 16 6)),
  (co "closed" "StringIO.closed" 833 834 835 272 1 0 0 3 408 true 318 409 Value.none (vr 410) (vr 411) (vr 412) 837 838),
  (fu "closed" "StringIO.closed" (sM 16 6) Value.none Value.none "io" 400 413),
  (Obj.mk (Value.type "property") none (Data.fields #[(vr 414), Value.none, Value.none, Value.none, (w "closed" 840), (Value.bool false)]) #[]),
  (tu []),
  em,
  (tu [(w "self" 844)]),
  (tu []),
  (pf "line_buffering" "StringIO.line_buffering" (sM 16 7)),
  (co "line_buffering" "StringIO.line_buffering" 841 842 843 276 1 0 0 3 416 true 318 417 Value.none (vr 418) (vr 419) (vr 420) 845 846),
  (fu "line_buffering" "StringIO.line_buffering" (sM 16 7) Value.none Value.none "io" 400 421),
  (Obj.mk (Value.type "property") none (Data.fields #[(vr 422), Value.none, Value.none, Value.none, (w "line_buffering" 848), (Value.bool false)]) #[]),
  (tu []),
  em,
  (tu [(w "self" 852)]),
  (tu []),
  (pf "newlines" "StringIO.newlines" (sM 16 8)),
  (co "newlines" "StringIO.newlines" 849 850 851 280 1 0 0 3 424 true 318 425 Value.none (vr 426) (vr 427) (vr 428) 853 854),
  (fu "newlines" "StringIO.newlines" (sM 16 8) Value.none Value.none "io" 400 429),
  (Obj.mk (Value.type "property") none (Data.fields #[(vr 430), Value.none, Value.none, Value.none, (w "newlines" 856), (Value.bool false)]) #[]),
  (tu []),
  em,
  (tu [(w "self" 860)]),
  (tu []),
  (pf "encoding" "StringIO.encoding" (sM 16 9)),
  (co "encoding" "StringIO.encoding" 857 858 859 284 1 0 0 3 432 true 318 433 Value.none (vr 434) (vr 435) (vr 436) 861 862),
  (fu "encoding" "StringIO.encoding" (sM 16 9) Value.none Value.none "io" 400 437),
  (Obj.mk (Value.type "property") none (Data.fields #[(vr 438), Value.none, Value.none, Value.none, (w "encoding" 864), (Value.bool false)]) #[]),
  (tu []),
  em,
  (tu [(w "self" 868)]),
  (tu []),
  (pf "errors" "StringIO.errors" (sM 16 10)),
  (co "errors" "StringIO.errors" 865 866 867 288 1 0 0 3 440 true 318 441 Value.none (vr 442) (vr 443) (vr 444) 869 870),
  (fu "errors" "StringIO.errors" (sM 16 10) Value.none Value.none "io" 400 445),
  (Obj.mk (Value.type "property") none (Data.fields #[(vr 446), Value.none, Value.none, Value.none, (w "errors" 872), (Value.bool false)]) #[]),
  (tu []),
  em,
  (tu [(w "self" 876)]),
  (tu []),
  (pf "close" "StringIO.close" (sM 16 11)),
  (co "close" "StringIO.close" 873 874 875 292 1 0 0 3 448 true 318 449 Value.none (vr 450) (vr 451) (vr 452) 877 878),
  (fu "close" "StringIO.close" (sM 16 11) Value.none Value.none "io" 400 453),
  (tu []),
  em,
  (tu [(w "self" 883)]),
  (tu []),
  (pf "__enter__" "StringIO.__enter__" (sM 16 12)),
  (co "__enter__" "StringIO.__enter__" 880 881 882 295 1 0 0 3 455 true 318 456 Value.none (vr 457) (vr 458) (vr 459) 884 885),
  (fu "__enter__" "StringIO.__enter__" (sM 16 12) Value.none Value.none "io" 400 460),
  (tu []),
  em,
  (tu [(w "self" 890), (w "args" 891)]),
  (tu []),
  (pf "__exit__" "StringIO.__exit__" (sM 16 13)),
  (co "__exit__" "StringIO.__exit__" 887 888 889 299 1 0 0 7 462 true 318 463 Value.none (vr 464) (vr 465) (vr 466) 892 893),
  (fu "__exit__" "StringIO.__exit__" (sM 16 13) Value.none Value.none "io" 400 467),
  (tu []),
  em,
  (tu [(w "self" 898)]),
  (tu []),
  (pf "readable" "StringIO.readable" (sM 16 14)),
  (co "readable" "StringIO.readable" 895 896 897 302 1 0 0 3 469 true 318 470 Value.none (vr 471) (vr 472) (vr 473) 899 900),
  (fu "readable" "StringIO.readable" (sM 16 14) Value.none Value.none "io" 400 474),
  (tu []),
  em,
  (tu [(w "self" 905)]),
  (tu []),
  (pf "writable" "StringIO.writable" (sM 16 15)),
  (co "writable" "StringIO.writable" 902 903 904 306 1 0 0 3 476 true 318 477 Value.none (vr 478) (vr 479) (vr 480) 906 907),
  (fu "writable" "StringIO.writable" (sM 16 15) Value.none Value.none "io" 400 481),
  (tu []),
  em,
  (tu [(w "self" 912)]),
  (tu []),
  (pf "seekable" "StringIO.seekable" (sM 16 16)),
  (co "seekable" "StringIO.seekable" 909 910 911 310 1 0 0 3 483 true 318 484 Value.none (vr 485) (vr 486) (vr 487) 913 914),
  (fu "seekable" "StringIO.seekable" (sM 16 16) Value.none Value.none "io" 400 488),
  (tu []),
  em,
  (tu [(w "self" 919)]),
  (tu []),
  (pf "isatty" "StringIO.isatty" (sM 16 17)),
  (co "isatty" "StringIO.isatty" 916 917 918 314 1 0 0 3 490 true 318 491 Value.none (vr 492) (vr 493) (vr 494) 920 921),
  (fu "isatty" "StringIO.isatty" (sM 16 17) Value.none Value.none "io" 400 495),
  (tu []),
  em,
  (tu [(w "self" 926)]),
  (tu []),
  (pf "flush" "StringIO.flush" (sM 16 18)),
  (co "flush" "StringIO.flush" 923 924 925 318 1 0 0 3 497 true 318 498 Value.none (vr 499) (vr 500) (vr 501) 927 928),
  (fu "flush" "StringIO.flush" (sM 16 18) Value.none Value.none "io" 400 502),
  (tu []),
  em,
  (tu [(w "self" 933)]),
  (tu []),
  (pf "fileno" "StringIO.fileno" (sM 16 19)),
  (co "fileno" "StringIO.fileno" 930 931 932 321 1 0 0 3 504 true 318 505 Value.none (vr 506) (vr 507) (vr 508) 934 935),
  (fu "fileno" "StringIO.fileno" (sM 16 19) Value.none Value.none "io" 400 509),
  (tu []),
  em,
  (tu [(w "self" 940)]),
  (tu []),
  (pf "detach" "StringIO.detach" (sM 16 20)),
  (co "detach" "StringIO.detach" 937 938 939 324 1 0 0 3 511 true 318 512 Value.none (vr 513) (vr 514) (vr 515) 941 942),
  (fu "detach" "StringIO.detach" (sM 16 20) Value.none Value.none "io" 400 516),
  (tu []),
  em,
  (tu [(w "self" 947)]),
  (tu []),
  (pf "getvalue" "StringIO.getvalue" (sM 16 21)),
  (co "getvalue" "StringIO.getvalue" 944 945 946 327 1 0 0 3 518 true 318 519 Value.none (vr 520) (vr 521) (vr 522) 948 949),
  (fu "getvalue" "StringIO.getvalue" (sM 16 21) Value.none Value.none "io" 400 523),
  (tu []),
  em,
  (tu [(w "self" 954)]),
  (tu []),
  (pf "tell" "StringIO.tell" (sM 16 22)),
  (co "tell" "StringIO.tell" 951 952 953 330 1 0 0 3 525 true 318 526 Value.none (vr 527) (vr 528) (vr 529) 955 956),
  (fu "tell" "StringIO.tell" (sM 16 22) Value.none Value.none "io" 400 530),
  (tu [(vi 0 958)]),
  (tu []),
  em,
  (tu [(w "self" 962), (w "pos" 963), (w "whence" 964)]),
  (tu []),
  (pf "seek" "StringIO.seek" (sM 16 23)),
  (co "seek" "StringIO.seek" 959 960 961 334 3 3 0 3 533 true 318 534 Value.none (vr 535) (vr 536) (vr 537) 965 966),
  (fu "seek" "StringIO.seek" (sM 16 23) (vr 532) Value.none "io" 400 538),
  (tu [Value.none]),
  (tu []),
  em,
  (tu [(w "self" 971), (w "pos" 972)]),
  (tu []),
  (pf "truncate" "StringIO.truncate" (sM 16 24)),
  (co "truncate" "StringIO.truncate" 968 969 970 351 2 2 0 3 541 true 318 542 Value.none (vr 543) (vr 544) (vr 545) 973 974),
  (fu "truncate" "StringIO.truncate" (sM 16 24) (vr 540) Value.none "io" 400 546),
  (tu [(vi (-1) 977)]),
  (tu []),
  em,
  (tu [(w "self" 981), (w "size" 982), (w "start" 983), (w "stop" 984)]),
  (tu []),
  (pf "read" "StringIO.read" (sM 16 25)),
  (co "read" "StringIO.read" 978 979 980 354 2 2 0 3 549 true 318 550 Value.none (vr 551) (vr 552) (vr 553) 985 986),
  (fu "read" "StringIO.read" (sM 16 25) (vr 548) Value.none "io" 400 554),
  (tu [(vi (-1) 989)]),
  (tu []),
  em,
  (tu [(w "self" 993), (w "size" 994)]),
  (tu []),
  (pf "readline" "StringIO.readline" (sM 16 26)),
  (co "readline" "StringIO.readline" 990 991 992 368 2 2 0 3 557 true 318 558 Value.none (vr 559) (vr 560) (vr 561) 995 996),
  (fu "readline" "StringIO.readline" (sM 16 26) (vr 556) Value.none "io" 400 562),
  (tu [(vi (-1) 999)]),
  (tu []),
  em,
  (tu [(w "self" 1003), (w "hint" 1004)]),
  (tu []),
  (pf "readlines" "StringIO.readlines" (sM 16 27)),
  (co "readlines" "StringIO.readlines" 1000 1001 1002 375 2 2 0 3 565 true 318 566 Value.none (vr 567) (vr 568) (vr 569) 1005 1006),
  (fu "readlines" "StringIO.readlines" (sM 16 27) (vr 564) Value.none "io" 400 570),
  (tu []),
  em,
  (tu [(w "self" 1011)]),
  (tu []),
  (pf "__iter__" "StringIO.__iter__" (sM 16 28)),
  (co "__iter__" "StringIO.__iter__" 1008 1009 1010 378 1 0 0 3 572 true 318 573 Value.none (vr 574) (vr 575) (vr 576) 1012 1013),
  (fu "__iter__" "StringIO.__iter__" (sM 16 28) Value.none Value.none "io" 400 577),
  (tu []),
  em,
  (tu [(w "self" 1018), (w "line" 1019)]),
  (tu []),
  (pf "__next__" "StringIO.__next__" (sM 16 29)),
  (co "__next__" "StringIO.__next__" 1015 1016 1017 382 1 0 0 3 579 true 318 580 Value.none (vr 581) (vr 582) (vr 583) 1020 1021),
  (fu "__next__" "StringIO.__next__" (sM 16 29) Value.none Value.none "io" 400 584),
  (tu []),
  em,
  (tu [(w "self" 1026), (w "s" 1027), (w "n" 1028), (w "m" 1029), (w "start" 1030), (w "buf" 1031)]),
  (tu []),
  (pf "write" "StringIO.write" (sM 16 30)),
  (co "write" "StringIO.write" 1023 1024 1025 389 2 2 0 3 586 true 318 587 Value.none (vr 588) (vr 589) (vr 590) 1032 1033),
  (fu "write" "StringIO.write" (sM 16 30) Value.none Value.none "io" 400 591),
  (tu []),
  em,
  (tu [(w "self" 1038), (w "lines" 1039)]),
  (tu []),
  (pf "writelines" "StringIO.writelines" (sM 16 31)),
  (co "writelines" "StringIO.writelines" 1035 1036 1037 408 2 2 0 3 593 true 318 594 Value.none (vr 595) (vr 596) (vr 597) 1040 1041),
  (fu "writelines" "StringIO.writelines" (sM 16 31) Value.none Value.none "io" 400 598),
  (tu []),
  em,
  (tu [(w "self" 1046)]),
  (tu []),
  (pf "__repr__" "StringIO.__repr__" (sM 16 32)),
  (co "__repr__" "StringIO.__repr__" 1043 1044 1045 411 1 0 0 3 600 true 318 601 Value.none (vr 602) (vr 603) (vr 604) 1047 1048),
  (fu "__repr__" "StringIO.__repr__" (sM 16 32) Value.none Value.none "io" 400 605),
  (tu [(w "__buf" 1050), (w "__newline" 1051), (w "__pos" 1052)]),
  (Obj.mk (Value.type "dict") none (Data.dict #[dk P "__module__" 777 (w "_io" 782), dk P "__firstlineno__" 781 (vi 208 780), dk P "__init__" 794 (vr 379), dk P "_StringIO__translated" 803 (vr 386), dk P "_StringIO__check" 810 (vr 393), dk P "_StringIO__check_dot" 817 (vr 400), dk P "_StringIO__line" 832 (vr 407), dk P "closed" 840 (vr 415), dk P "line_buffering" 848 (vr 423), dk P "newlines" 856 (vr 431), dk P "encoding" 864 (vr 439), dk P "errors" 872 (vr 447), dk P "close" 879 (vr 454), dk P "__enter__" 886 (vr 461), dk P "__exit__" 894 (vr 468), dk P "readable" 901 (vr 475), dk P "writable" 908 (vr 482), dk P "seekable" 915 (vr 489), dk P "isatty" 922 (vr 496), dk P "flush" 929 (vr 503), dk P "fileno" 936 (vr 510), dk P "detach" 943 (vr 517), dk P "getvalue" 950 (vr 524), dk P "tell" 957 (vr 531), dk P "seek" 967 (vr 539), dk P "truncate" 975 (vr 547), dk P "read" 987 (vr 555), dk P "readline" 997 (vr 563), dk P "readlines" 1007 (vr 571), dk P "__iter__" 1014 (vr 578), dk P "__next__" 1022 (vr 585), dk P "write" 1034 (vr 592), dk P "writelines" 1042 (vr 599), dk P "__repr__" 1049 (vr 606), dk P "__static_attributes__" 1053 (vr 607), dk P "__doc__" 1054 Value.none] 2) #[]),
  (Obj.mk (Value.type "type") none (Data.cls (ClassData.mk (o "StringIO") [(vr 132)] [(vr 609), (vr 132), (vr 105), (Value.type "object")] 608 (o "StringIO") true [] [] false none false)) #[(some (vr 365)), none, (some (w "StringIO" 770)), (some (w "StringIO" 778)), (some Value.none), (some (Value.bool true))]),
  (Obj.mk (Value.type "super") none (Data.fields #[(vr 609), (vr 609), (vr 609)]) #[]),
  (Obj.mk (Value.type "builtin_function_or_method") none (Data.fields #[(Value.builtin "object.__init_subclass__"), (vr 609)]) #[]),
  (tu []),
  em,
  (tu [(w "name" 1062), (w "x" 1063), (w "t" 1064)]),
  (tu []),
  (pf "_kind" "_kind" (sA 18)),
  (co "_kind" "_kind" 1059 1060 1061 414 2 0 0 3 612 true 318 613 Value.none (vr 614) (vr 615) (vr 616) 1065 1066),
  (fu "_kind" "_kind" (sA 18) Value.none Value.none "os.path" 1057 617),
  (tu []),
  em,
  (tu [(w "name" 1071), (w "x" 1072), (w "k" 1073)]),
  (tu []),
  (pf "_fspath" "_fspath" (sA 19)),
  (co "_fspath" "_fspath" 1068 1069 1070 435 2 0 0 3 619 true 318 620 Value.none (vr 621) (vr 622) (vr 623) 1074 1075),
  (fu "_fspath" "_fspath" (sA 19) Value.none Value.none "os.path" 1057 624),
  (tu []),
  em,
  (tu [(w "funcname" 1080), (w "args" 1081), (w "s" 1082), (w "k" 1083)]),
  (tu []),
  (pf "_check_arg_types" "_check_arg_types" (sA 20)),
  (co "_check_arg_types" "_check_arg_types" 1077 1078 1079 440 1 0 0 7 626 true 318 627 Value.none (vr 628) (vr 629) (vr 630) 1084 1085),
  (fu "_check_arg_types" "_check_arg_types" (sA 20) Value.none Value.none "os.path" 1057 631),
  (tu []),
  em,
  (tu [(w "s" 1090)]),
  (tu []),
  (pf "isabs" "isabs" (sA 21)),
  (co "isabs" "isabs" 1087 1088 1089 445 1 0 0 3 633 true 318 634 Value.none (vr 635) (vr 636) (vr 637) 1091 1092),
  (fu "isabs" "isabs" (sA 21) Value.none Value.none "os.path" 1057 638),
  (tu []),
  em,
  (tu [(w "a" 1097), (w "p" 1098), (w "b" 1099), (w "sep" 1100), (w "path" 1101)]),
  (tu []),
  (pf "join" "join" (sA 22)),
  (co "join" "join" 1094 1095 1096 448 1 0 0 7 640 true 318 641 Value.none (vr 642) (vr 643) (vr 644) 1102 1103),
  (fu "join" "join" (sA 22) Value.none Value.none "os.path" 1057 645),
  (tu []),
  em,
  (tu [(w "p" 1108), (w "sep" 1109), (w "i" 1110), (w "head" 1111)]),
  (tu []),
  (pf "dirname" "dirname" (sA 23)),
  (co "dirname" "dirname" 1105 1106 1107 468 1 0 0 3 647 true 318 648 Value.none (vr 649) (vr 650) (vr 651) 1112 1113),
  (fu "dirname" "dirname" (sA 23) Value.none Value.none "os.path" 1057 652),
  (tu []),
  ob0 P,
  (Obj.mk (Value.type "dict") none (Data.dict #[dk P "__module__" 1124 (w "cpy313.shlex" 1115), dk P "__qualname__" 1126 (w "shlex" 1125), dk P "__firstlineno__" 1128 (vi 477 1127), dk P "__init__" 1140 (vr 668), dk P "punctuation_chars" 1148 (vr 676), dk P "push_token" 1156 (vr 683), dk P "push_source" 1165 (vr 691), dk P "pop_source" 1172 (vr 698), dk P "get_token" 1184 (vr 705), dk P "read_token" 1195 (vr 712), dk P "sourcehook" 1203 (vr 719), dk P "error_leader" 1212 (vr 727), dk P "__iter__" 1219 (vr 734), dk P "__next__" 1227 (vr 741), dk P "__static_attributes__" 1248 (vr 742)] 15) #[]),
  (tu []),
  (Obj.mk Value.none none (Data.fields #[(ni 479), (ni 4), (vr 667), (ni 521), (ni 4), (vr 674), (ni 524), (ni 4), (vr 682), (ni 527), (ni 4), (vr 690), (ni 540), (ni 4), (vr 697), (ni 547), (ni 4), (vr 704), (ni 574), (ni 4), (vr 711), (ni 711), (ni 4), (vr 718), (ni 718), (ni 4), (vr 726), (ni 721), (ni 4), (vr 733), (ni 724), (ni 4), (vr 740)]) #[]),
  (co "shlex" "shlex" 1119 1120 1121 477 0 0 0 0 657 false 318 658 Value.none Value.none Value.none Value.none 1122 1123),
  (Obj.mk (Value.type "frame") none Data.plain #[(some (vr 659)), (some (vr 3)), (some (vr 656)), none, (some (w "cpy313.shlex" 1115)), none, (some (vr 0))]),
  (tu [Value.none, Value.none, (Value.bool false), (Value.bool false)]),
  (tu []),
  em,
  (tu [(w "self" 1132), (w "instream" 1133), (w "infile" 1134), (w "posix" 1135), (w "punctuation_chars" 1136), (w "t" 1137)]),
  (tu []),
  (pf "__init__" "shlex.__init__" (sM 25 0)),
  (co "__init__" "shlex.__init__" 1129 1130 1131 479 5 0 0 3 662 true 318 663 Value.none (vr 664) (vr 665) (vr 666) 1138 1139),
  (fu "__init__" "shlex.__init__" (sM 25 0) (vr 661) Value.none "cpy313.shlex" 1115 667),
  (tu []),
  em,
  (tu [(w "self" 1144)]),
  (tu []),
  (pf "punctuation_chars" "shlex.punctuation_chars" (sM 25 1)),
  (co "punctuation_chars" "shlex.punctuation_chars" 1141 1142 1143 520 1 0 0 3 669 true 318 670 Value.none (vr 671) (vr 672) (vr 673) 1145 1146),
  (fu "punctuation_chars" "shlex.punctuation_chars" (sM 25 1) Value.none Value.none "cpy313.shlex" 1115 674),
  (Obj.mk (Value.type "property") none (Data.fields #[(vr 675), Value.none, Value.none, Value.none, (w "punctuation_chars" 1148), (Value.bool false)]) #[]),
  (tu []),
  em,
  (tu [(w "self" 1152), (w "tok" 1153)]),
  (tu []),
  (pf "push_token" "shlex.push_token" (sM 25 2)),
  (co "push_token" "shlex.push_token" 1149 1150 1151 524 2 0 0 3 677 true 318 678 Value.none (vr 679) (vr 680) (vr 681) 1154 1155),
  (fu "push_token" "shlex.push_token" (sM 25 2) Value.none Value.none "cpy313.shlex" 1115 682),
  (tu [Value.none]),
  (tu []),
  em,
  (tu [(w "self" 1160), (w "newstream" 1161), (w "newfile" 1162)]),
  (tu []),
  (pf "push_source" "shlex.push_source" (sM 25 3)),
  (co "push_source" "shlex.push_source" 1157 1158 1159 527 3 0 0 3 685 true 318 686 Value.none (vr 687) (vr 688) (vr 689) 1163 1164),
  (fu "push_source" "shlex.push_source" (sM 25 3) (vr 684) Value.none "cpy313.shlex" 1115 690),
  (tu []),
  em,
  (tu [(w "self" 1169)]),
  (tu []),
  (pf "pop_source" "shlex.pop_source" (sM 25 4)),
  (co "pop_source" "shlex.pop_source" 1166 1167 1168 540 1 0 0 3 692 true 318 693 Value.none (vr 694) (vr 695) (vr 696) 1170 1171),
  (fu "pop_source" "shlex.pop_source" (sM 25 4) Value.none Value.none "cpy313.shlex" 1115 697),
  (tu []),
  em,
  (tu [(w "self" 1176), (w "tok" 1177), (w "raw" 1178), (w "spec" 1179), (w "newfile" 1180), (w "newstream" 1181)]),
  (tu []),
  (pf "get_token" "shlex.get_token" (sM 25 5)),
  (co "get_token" "shlex.get_token" 1173 1174 1175 547 1 0 0 3 699 true 318 700 Value.none (vr 701) (vr 702) (vr 703) 1182 1183),
  (fu "get_token" "shlex.get_token" (sM 25 5) Value.none Value.none "cpy313.shlex" 1115 704),
  (tu []),
  em,
  (tu [(w "self" 1188), (w "quoted" 1189), (w "escapedstate" 1190), (w "nextchar" 1191), (w "result" 1192)]),
  (tu []),
  (pf "read_token" "shlex.read_token" (sM 25 6)),
  (co "read_token" "shlex.read_token" 1185 1186 1187 574 1 0 0 3 706 true 318 707 Value.none (vr 708) (vr 709) (vr 710) 1193 1194),
  (fu "read_token" "shlex.read_token" (sM 25 6) Value.none Value.none "cpy313.shlex" 1115 711),
  (tu []),
  em,
  (tu [(w "self" 1199), (w "newfile" 1200)]),
  (tu []),
  (pf "sourcehook" "shlex.sourcehook" (sM 25 7)),
  (co "sourcehook" "shlex.sourcehook" 1196 1197 1198 711 2 0 0 3 713 true 318 714 Value.none (vr 715) (vr 716) (vr 717) 1201 1202),
  (fu "sourcehook" "shlex.sourcehook" (sM 25 7) Value.none Value.none "cpy313.shlex" 1115 718),
  (tu [Value.none, Value.none]),
  (tu []),
  em,
  (tu [(w "self" 1207), (w "infile" 1208), (w "lineno" 1209)]),
  (tu []),
  (pf "error_leader" "shlex.error_leader" (sM 25 8)),
  (co "error_leader" "shlex.error_leader" 1204 1205 1206 718 3 0 0 3 721 true 318 722 Value.none (vr 723) (vr 724) (vr 725) 1210 1211),
  (fu "error_leader" "shlex.error_leader" (sM 25 8) (vr 720) Value.none "cpy313.shlex" 1115 726),
  (tu []),
  em,
  (tu [(w "self" 1216)]),
  (tu []),
  (pf "__iter__" "shlex.__iter__" (sM 25 9)),
  (co "__iter__" "shlex.__iter__" 1213 1214 1215 721 1 0 0 3 728 true 318 729 Value.none (vr 730) (vr 731) (vr 732) 1217 1218),
  (fu "__iter__" "shlex.__iter__" (sM 25 9) Value.none Value.none "cpy313.shlex" 1115 733),
  (tu []),
  em,
  (tu [(w "self" 1223), (w "token" 1224)]),
  (tu []),
  (pf "__next__" "shlex.__next__" (sM 25 10)),
  (co "__next__" "shlex.__next__" 1220 1221 1222 724 1 0 0 3 735 true 318 736 Value.none (vr 737) (vr 738) (vr 739) 1225 1226),
  (fu "__next__" "shlex.__next__" (sM 25 10) Value.none Value.none "cpy313.shlex" 1115 740),
  (tu [(w "_punctuation_chars" 1228), (w "_pushback_chars" 1229), (w "commenters" 1230), (w "debug" 1231), (w "eof" 1232), (w "escape" 1233), (w "escapedquotes" 1234), (w "filestack" 1235), (w "infile" 1236), (w "instream" 1237), (w "lineno" 1238), (w "posix" 1239), (w "pushback" 1240), (w "quotes" 1241), (w "source" 1242), (w "state" 1243), (w "token" 1244), (w "whitespace" 1245), (w "whitespace_split" 1246), (w "wordchars" 1247)]),
  (Obj.mk (Value.type "dict") none (Data.dict #[dk P "__module__" 1124 (w "cpy313.shlex" 1115), dk P "__firstlineno__" 1128 (vi 477 1127), dk P "__init__" 1140 (vr 668), dk P "punctuation_chars" 1148 (vr 676), dk P "push_token" 1156 (vr 683), dk P "push_source" 1165 (vr 691), dk P "pop_source" 1172 (vr 698), dk P "get_token" 1184 (vr 705), dk P "read_token" 1195 (vr 712), dk P "sourcehook" 1203 (vr 719), dk P "error_leader" 1212 (vr 727), dk P "__iter__" 1219 (vr 734), dk P "__next__" 1227 (vr 741), dk P "__static_attributes__" 1248 (vr 742), dk P "__dict__" 1250 (vr 745), dk P "__weakref__" 1252 (vr 746), dk P "__doc__" 1253 Value.none] 4) #[]),
  (Obj.mk (Value.type "type") none (Data.cls (ClassData.mk (o "shlex") [(Value.type "object")] [(vr 744), (Value.type "object")] 743 (o "shlex") true [] [] false none false)) #[none, none, (some (w "shlex" 1117)), (some (w "shlex" 1125)), (some (Value.builtin "object.__new__")), (some (Value.bool true))]),
  (Obj.mk (Value.type "getset_descriptor") none (Data.fields #[(w "__dict__" 1249), (vr 744), (Value.builtin "function.__dict__"), (Value.builtin "function.__dict__#set")]) #[]),
  (Obj.mk (Value.type "getset_descriptor") none (Data.fields #[(w "__weakref__" 1251), (vr 744), (Value.builtin "ExceptionGroup.__weakref__"), Value.none]) #[]),
  (Obj.mk (Value.type "super") none (Data.fields #[(vr 744), (vr 744), (vr 744)]) #[]),
  (Obj.mk (Value.type "builtin_function_or_method") none (Data.fields #[(Value.builtin "object.__init_subclass__"), (vr 744)]) #[]),
  (tu []),
  em,
  (tu [(w "expected" 1261), (w "actual" 1262), (w "missing" 1263), (w "item" 1264)]),
  (tu []),
  (pf "unorderable_list_difference" "unorderable_list_difference" (sA 27)),
  (co "unorderable_list_difference" "unorderable_list_difference" 1258 1259 1260 730 2 0 0 3 749 true 318 750 Value.none (vr 751) (vr 752) (vr 753) 1265 1266),
  (fu "unorderable_list_difference" "unorderable_list_difference" (sA 27) Value.none Value.none "cpy313.unittest.util" 1256 754),
  (tu []),
  em,
  (tu [(w "cells" 1273), (w "text" 1274), (w "cell" 1275), (w "sign" 1276)]),
  (tu []),
  (pf "_law_text" "_law_text" (sA 29)),
  (co "_law_text" "_law_text" 1270 1271 1272 740 1 0 0 3 756 true 318 757 Value.none (vr 758) (vr 759) (vr 760) 1277 1278),
  (fu "_law_text" "_law_text" (sA 29) Value.none Value.none "law_oc0215_01" 1268 761),
  (tu []),
  em,
  (tu [(w "sent" 1283), (w "lexer" 1284), (w "tokens" 1285), (w "token" 1286)]),
  (tu []),
  (pf "_law_tokens" "_law_tokens" (sA 30)),
  (co "_law_tokens" "_law_tokens" 1280 1281 1282 748 1 0 0 3 763 true 318 764 Value.none (vr 765) (vr 766) (vr 767) 1287 1288),
  (fu "_law_tokens" "_law_tokens" (sA 30) Value.none Value.none "law_oc0215_01" 1268 768),
  (tu []),
  em,
  (tu [(w "token" 1293)]),
  (tu []),
  (pf "_law_word" "_law_word" (sA 31)),
  (co "_law_word" "_law_word" 1290 1291 1292 759 1 0 0 3 770 true 318 771 Value.none (vr 772) (vr 773) (vr 774) 1294 1295),
  (fu "_law_word" "_law_word" (sA 31) Value.none Value.none "law_oc0215_01" 1268 775),
  (tu []),
  em,
  (tu [(w "token" 1300), (w "word" 1301)]),
  (tu []),
  (pf "_law_sent" "_law_sent" (sA 32)),
  (co "_law_sent" "_law_sent" 1297 1298 1299 761 1 0 0 3 777 true 318 778 Value.none (vr 779) (vr 780) (vr 781) 1302 1303),
  (fu "_law_sent" "_law_sent" (sA 32) Value.none Value.none "law_oc0215_01" 1268 782),
  (tu []),
  em,
  (pf "_law_texts" "_law_texts" (sA 33)),
  (co "_law_texts" "_law_texts" 1305 1306 1307 766 1 0 0 3 784 true 318 785 Value.none Value.none Value.none (vr 786) 1308 1309),
  (fu "_law_texts" "_law_texts" (sA 33) Value.none Value.none "law_oc0215_01" 1268 787),
  (tu []),
  em,
  (tu [(w "ends" 1314), (w "one" 1315), (w "two" 1316), (w "turn" 1317)]),
  (tu []),
  (pf "_law_second" "_law_second" (sA 34)),
  (co "_law_second" "_law_second" 1311 1312 1313 775 1 0 0 3 789 true 318 790 Value.none (vr 791) (vr 792) (vr 793) 1318 1319),
  (fu "_law_second" "_law_second" (sA 34) Value.none Value.none "law_oc0215_01" 1268 794),
  (tu []),
  em,
  (pf "_law_sizes" "_law_sizes" (sA 35)),
  (co "_law_sizes" "_law_sizes" 1321 1322 1323 780 1 0 0 3 796 true 318 797 Value.none Value.none Value.none (vr 798) 1324 1325),
  (fu "_law_sizes" "_law_sizes" (sA 35) Value.none Value.none "law_oc0215_01" 1268 799),
  (tu []),
  em,
  (pf "law" "law" (sA 36)),
  (co "law" "law" 1327 1328 1329 789 1 0 0 3 801 true 318 802 Value.none Value.none Value.none (vr 803) 1330 1331),
  (fu "law" "law" (sA 36) Value.none Value.none "law_oc0215_01" 1268 804)]
/-- the first n, some of them others -/
noncomputable def cut : Nat → Nat → List (Nat × Obj) → List Obj → List Obj
  | 0, _, _, _ => []
  | _ + 1, _, _, [] => []
  | n + 1, i, [], x :: l => x :: cut n (i + 1) [] l
  | n + 1, i, (j, y) :: r, x :: l => match Nat.beq i j with
    | true => y :: cut n (i + 1) r l
    | false => x :: cut n (i + 1) ((j, y) :: r) l
noncomputable def L0 : Params → List Obj := fun P => cut 34 0 [(2, ob1 P), (3, ob2 P)] (L1 P)
noncomputable def Lb : Params → List Obj := fun P => cut 38 0 [(2, ob1 P), (3, ob2 P), (35, em)] (L1 P)
noncomputable def Lc : Params → List Obj := fun P => cut 135 0 [(3, (Obj.mk (Value.type "dict") none (Data.dict #[dk P "__name__" 165 (w "io" 400), dk P "__doc__" 166 Value.none, dk P "__package__" 167 Value.none, dk P "__loader__" 168 (Value.builtin "__main__.__loader__#opaque"), dk P "__spec__" 169 Value.none, dk P "__annotations__" 170 (vr 6), dk P "__builtins__" 171 (vr 4), dk P "__file__" 173 (w "/claim/cut.py" 172), dk P "__cached__" 174 Value.none, dk P "_sre" 275 (vr 12), dk P "deque" 317 (Value.type "collections.deque"), dk P "_wall" 330 (vr 44), dk P "_twin_re_1" 348 (vr 49), dk P "_twin_re_2" 390 (vr 54), dk P "CRLF" 392 (w "\x0d\n" 391), dk P "quotedata" 399 (vr 61), dk P "_whence" 409 (vr 68), dk P "_index" 417 (vr 75), dk P "UnsupportedOperation" 439 (vr 85), dk P "IOBase" 471 (vr 105), dk P "BufferedIOBase" 489 (vr 120), dk P "TextIOBase" 507 (vr 132)] 22) #[])), (35, (Obj.mk Value.none none (Data.fields #[(ni 3), (ni 0), (vr 43), (ni 10), (ni 0), (vr 60), (ni 13), (ni 0), (vr 67), (ni 18), (ni 0), (vr 74), (ni 25), (ni 0), (vr 81), (ni 27), (ni 0), (vr 94), (ni 34), (ni 0), (vr 116), (ni 36), (ni 0), (vr 128)]) #[])), (120, (Obj.mk (Value.type "type") none (Data.cls (ClassData.mk (o "BufferedIOBase") [(vr 105)] [(vr 120), (vr 105), (Value.type "object")] 119 (o "BufferedIOBase") true [] [] false none false)) #[(some (vr 111)), none, (some (w "BufferedIOBase" 472)), (some (w "BufferedIOBase" 480)), (some Value.none), (some (Value.bool true))])), (132, ob3 P)] (L1 P)
noncomputable def Ld : Params → List Obj := fun P => cut 365 0 [(3, (Obj.mk (Value.type "dict") none (Data.dict #[dk P "__name__" 165 (w "io" 400), dk P "__doc__" 166 Value.none, dk P "__package__" 167 Value.none, dk P "__loader__" 168 (Value.builtin "__main__.__loader__#opaque"), dk P "__spec__" 169 Value.none, dk P "__annotations__" 170 (vr 6), dk P "__builtins__" 171 (vr 4), dk P "__file__" 173 (w "/claim/cut.py" 172), dk P "__cached__" 174 Value.none, dk P "_sre" 275 (vr 12), dk P "deque" 317 (Value.type "collections.deque"), dk P "_wall" 330 (vr 44), dk P "_twin_re_1" 348 (vr 49), dk P "_twin_re_2" 390 (vr 54), dk P "CRLF" 392 (w "\x0d\n" 391), dk P "quotedata" 399 (vr 61), dk P "_whence" 409 (vr 68), dk P "_index" 417 (vr 75), dk P "UnsupportedOperation" 439 (vr 85), dk P "IOBase" 471 (vr 105), dk P "BufferedIOBase" 489 (vr 120), dk P "TextIOBase" 507 (vr 132), dk P "BytesIO" 769 (vr 362)] 23) #[])), (35, (Obj.mk Value.none none (Data.fields #[(ni 3), (ni 0), (vr 43), (ni 10), (ni 0), (vr 60), (ni 13), (ni 0), (vr 67), (ni 18), (ni 0), (vr 74), (ni 25), (ni 0), (vr 81), (ni 27), (ni 0), (vr 94), (ni 34), (ni 0), (vr 116), (ni 36), (ni 0), (vr 128), (ni 38), (ni 0), (vr 140)]) #[])), (132, ob3 P)] (L1 P)
noncomputable def Le : Params → List Obj := fun P => cut 612 0 [(3, (Obj.mk (Value.type "dict") none (Data.dict #[dk P "__name__" 165 (w "io" 400), dk P "__doc__" 166 Value.none, dk P "__package__" 167 Value.none, dk P "__loader__" 168 (Value.builtin "__main__.__loader__#opaque"), dk P "__spec__" 169 Value.none, dk P "__annotations__" 170 (vr 6), dk P "__builtins__" 171 (vr 4), dk P "__file__" 173 (w "/claim/cut.py" 172), dk P "__cached__" 174 Value.none, dk P "_sre" 275 (vr 12), dk P "deque" 317 (Value.type "collections.deque"), dk P "_wall" 330 (vr 44), dk P "_twin_re_1" 348 (vr 49), dk P "_twin_re_2" 390 (vr 54), dk P "CRLF" 392 (w "\x0d\n" 391), dk P "quotedata" 399 (vr 61), dk P "_whence" 409 (vr 68), dk P "_index" 417 (vr 75), dk P "UnsupportedOperation" 439 (vr 85), dk P "IOBase" 471 (vr 105), dk P "BufferedIOBase" 489 (vr 120), dk P "TextIOBase" 507 (vr 132), dk P "BytesIO" 769 (vr 362), dk P "StringIO" 1056 (vr 609)] 24) #[])), (35, (Obj.mk Value.none none (Data.fields #[(ni 3), (ni 0), (vr 43), (ni 10), (ni 0), (vr 60), (ni 13), (ni 0), (vr 67), (ni 18), (ni 0), (vr 74), (ni 25), (ni 0), (vr 81), (ni 27), (ni 0), (vr 94), (ni 34), (ni 0), (vr 116), (ni 36), (ni 0), (vr 128), (ni 38), (ni 0), (vr 140), (ni 208), (ni 0), (vr 370)]) #[]))] (L1 P)
noncomputable def H0 : Params → Heap := fun P => ⟨Array.mk (L0 P), lif⟩
noncomputable def Hb : Params → Heap := fun P => ⟨Array.mk (Lb P), lif⟩
noncomputable def H1 : Params → Heap := fun P => ⟨Array.mk (L1 P), lif⟩
/-- a list of objects as a tree by their places -/
noncomputable def spl : List Obj → List Obj × List Obj
  | [] => ([], [])
  | x :: r => match spl r with
    | (a, b) => (x :: b, a)
noncomputable def btr : Nat → List Obj → BT
  | 0, _ => .nil
  | _ + 1, [] => .nil
  | f + 1, x :: r => match spl r with
    | (a, b) => .node x (btr f a) (btr f b)
noncomputable def tre (l : List Obj) : BT := btr 12 l
/-- what stands at the top's end, as far as the walk wants it -/
noncomputable def KH : Params → Frag := fun P =>
  (nat_lit 2, (Obj.mk Value.none none (Data.dict #[dk P "\x69mport.loaded._sre" 183 (Value.bool true), dk P "class._frozen_importlib.BuiltinImporter" 185 (Value.ref 14), dk P "watched.\x69mport" 206 (Value.ref 18), dk P "class._frozen_importlib.ModuleSpec" 216 (Value.ref 22), dk P "sys.modules.booked-epoch" 245 (Value.int 4 0), dk P "\x69mport.later-laid._sre" 270 (Value.bool true), dk P "watched.library" 272 (Value.ref 27), dk P "watched.library-objects" 0 (Value.str (Str.ofString "\x0c\x1e") 0), dk P "watched.library-deep._sre" 273 (Value.str (Str.ofString "\x04\x00\x00\x0b\x04\x00\x00\x0b\x04\x00\x00\x03\x04\x00\x00\x0b\x08\x04dict\x02") 0), dk P "\x69mport.loaded._collections" 280 (Value.bool true), dk P "sys.modules.landed._collections" 294 (Value.bool true), dk P "\x69mport.later-laid._collections" 309 (Value.bool true), dk P "watched.library-deep._collections" 311 (Value.str (Str.ofString "\x04\x00\x00\x1d\x04\x00\x00\x1d\x04\x00\x00\x03\x04\x00\x00\x1d\x08\x04dict\x02") 0), dk P "type.__subclasses__.OSError.0" 436 (Value.int 85 0), dk P "type.__subclasses__.OSError.n" 437 (Value.int 1 0)] 15) #[])) ::
  (nat_lit 3, (Obj.mk (Value.type "dict") none (Data.dict #[dk P "__name__" 165 (Value.str (Str.ofString "law_oc0215_01") 1268), dk P "__doc__" 166 Value.none, dk P "__package__" 167 Value.none, dk P "__loader__" 168 (Value.builtin "__main__.__loader__#opaque"), dk P "__spec__" 169 Value.none, dk P "__annotations__" 170 (Value.ref 6), dk P "__builtins__" 171 (Value.ref 4), dk P "__file__" 173 (Value.str (Str.ofString "/claim/cut.py") 172), dk P "__cached__" 174 Value.none, dk P "_sre" 275 (Value.ref 12), dk P "deque" 317 (Value.type "collections.deque"), dk P "_wall" 330 (Value.ref 44), dk P "_twin_re_1" 348 (Value.ref 49), dk P "_twin_re_2" 390 (Value.ref 54), dk P "CRLF" 392 (Value.str (Str.ofString "\x0d\n") 391), dk P "quotedata" 399 (Value.ref 61), dk P "_whence" 409 (Value.ref 68), dk P "_index" 417 (Value.ref 75), dk P "UnsupportedOperation" 439 (Value.ref 85), dk P "IOBase" 471 (Value.ref 105), dk P "BufferedIOBase" 489 (Value.ref 120), dk P "TextIOBase" 507 (Value.ref 132), dk P "BytesIO" 769 (Value.ref 362), dk P "StringIO" 1056 (Value.ref 609), dk P "_kind" 1067 (Value.ref 618), dk P "_fspath" 1076 (Value.ref 625), dk P "_check_arg_types" 1086 (Value.ref 632), dk P "isabs" 1093 (Value.ref 639), dk P "join" 1104 (Value.ref 646), dk P "dirname" 1114 (Value.ref 653), dk P "shlex" 1255 (Value.ref 744), dk P "unorderable_list_difference" 1267 (Value.ref 755), dk P "_law_text" 1279 (Value.ref 762), dk P "_law_tokens" 1289 (Value.ref 769), dk P "_law_word" 1296 (Value.ref 776), dk P "_law_sent" 1304 (Value.ref 783), dk P "_law_texts" 1310 (Value.ref 788), dk P "_law_second" 1320 (Value.ref 795), dk P "_law_sizes" 1326 (Value.ref 800), dk P "law" 1332 (Value.ref 805)] 40) #[])) ::
  (nat_lit 48, (Obj.mk (Value.type "tuple") none (Data.seq #[(Value.int 14 0), (Value.int 4 0), (Value.int 0 0), (Value.int 1 0), (Value.int 1 0), (Value.int 6 0), (Value.int 1 0), (Value.int 16 0), (Value.int 46 0), (Value.int 1 0)] 0) #[])) ::
  (nat_lit 49, (Obj.mk (Value.type "re.Pattern") none (Data.fields #[(Value.str (Str.ofString "(?m)^\\.") 334), (Value.int 40 347), (Value.int 0 0), Value.none, Value.none, (Value.ref 48), (Value.int 0 0)]) #[])) ::
  (nat_lit 53, (Obj.mk (Value.type "tuple") none (Data.seq #[(Value.int 14 0), (Value.int 9 0), (Value.int 4 0), (Value.int 1 0), (Value.int 2 0), (Value.int 16 0), (Value.int 10 0), (Value.int 16 0), (Value.int 13 0), (Value.int 0 0), (Value.int 7 0), (Value.int 7 0), (Value.int 16 0), (Value.int 13 0), (Value.int 16 0), (Value.int 10 0), (Value.int 15 0), (Value.int 18 0), (Value.int 5 0), (Value.int 16 0), (Value.int 10 0), (Value.int 15 0), (Value.int 13 0), (Value.int 11 0), (Value.int 16 0), (Value.int 13 0), (Value.int 5 0), (Value.int 5 0), (Value.int 0 0), (Value.int 16 0), (Value.int 10 0), (Value.int 1 0), (Value.int 15 0), (Value.int 2 0), (Value.int 0 0), (Value.int 1 0)] 0) #[])) ::
  (nat_lit 54, (Obj.mk (Value.type "re.Pattern") none (Data.fields #[(Value.str (Str.ofString "(?:\\r\\n|\\n|\\r(?!\\n))") 350), (Value.int 32 389), (Value.int 0 0), Value.none, Value.none, (Value.ref 53), (Value.int 0 0)]) #[])) ::
  (nat_lit 60, (Obj.mk (Value.type "code") none (Data.fields #[(Value.str (Str.ofString "quotedata") 393), (Value.str (Str.ofString "quotedata") 394), (Value.str (Str.ofString "/claim/cut.py") 395), (Value.int 10 0), (Value.int 1 0), (Value.int 0 0), (Value.int 0 0), (Value.int 3 0), (Value.ref 55), (Value.bool true), (Value.int 318 0), (Value.ref 56), Value.none, (Value.ref 57), (Value.ref 58), (Value.ref 59), (Value.int 397 0), (Value.int 10 0), (Value.str (Str.ofString "/claim/cut.py") 398)]) #[])) ::
  (nat_lit 61, (Obj.mk (Value.type "function") none (Data.func (FuncData.mk (Str.ofString "quotedata") (Str.ofString "quotedata") (Arguments.mk [] [(Arg.mk (Str.ofString "data") none (Pos.mk 10 14 10 18))] none [] [] none []) (FuncBody.stmts [(Stmt.Return (some (Expr.Call (Expr.Attribute (Expr.Name (Str.ofString "_twin_re_1") (Pos.mk 11 11 11 21)) (Str.ofString "sub") (Pos.mk 11 11 11 25)) [(Expr.Constant (Const.str (Str.ofString "..")) 0 (Pos.mk 11 26 11 30)), (Expr.Call (Expr.Attribute (Expr.Name (Str.ofString "_twin_re_2") (Pos.mk 11 32 11 42)) (Str.ofString "sub") (Pos.mk 11 32 11 46)) [(Expr.Name (Str.ofString "CRLF") (Pos.mk 11 47 11 51)), (Expr.Name (Str.ofString "data") (Pos.mk 11 53 11 57))] [] (Pos.mk 11 32 11 58))] [] (Pos.mk 11 11 11 59))) (Pos.mk 11 4 11 59))]) (Scope.mk ScopeKind.function [((Str.ofString "data"), NameKind.local), ((Str.ofString "_twin_re_1"), NameKind.globalImplicit), ((Str.ofString "_twin_re_2"), NameKind.globalImplicit), ((Str.ofString "CRLF"), NameKind.globalImplicit)] false false []) 3 [] Value.none Value.none Value.none (Value.str (Str.ofString "cpy313.smtplib") 331) none (Value.ref 60) Value.none 0)) #[])) ::
  (nat_lit 74, (Obj.mk (Value.type "code") none (Data.fields #[(Value.str (Str.ofString "_index") 410), (Value.str (Str.ofString "_index") 411), (Value.str (Str.ofString "/claim/cut.py") 412), (Value.int 18 0), (Value.int 2 0), (Value.int 0 0), (Value.int 0 0), (Value.int 3 0), (Value.ref 69), (Value.bool true), (Value.int 318 0), (Value.ref 70), Value.none, (Value.ref 71), (Value.ref 72), (Value.ref 73), (Value.int 415 0), (Value.int 18 0), (Value.str (Str.ofString "/claim/cut.py") 416)]) #[])) ::
  (nat_lit 75, (Obj.mk (Value.type "function") none (Data.func (FuncData.mk (Str.ofString "_index") (Str.ofString "_index") (Arguments.mk [] [(Arg.mk (Str.ofString "n") none (Pos.mk 18 11 18 12)), (Arg.mk (Str.ofString "what") none (Pos.mk 18 14 18 18))] none [] [] none []) (FuncBody.stmts [(Stmt.If (Expr.BoolOp BoolOp.And [(Expr.Compare (Expr.Call (Expr.Name (Str.ofString "type") (Pos.mk 19 7 19 11)) [(Expr.Name (Str.ofString "n") (Pos.mk 19 12 19 13))] [] (Pos.mk 19 7 19 14)) [CmpOp.IsNot] [(Expr.Name (Str.ofString "int") (Pos.mk 19 22 19 25))] (Pos.mk 19 7 19 25)), (Expr.Compare (Expr.Call (Expr.Name (Str.ofString "type") (Pos.mk 19 30 19 34)) [(Expr.Name (Str.ofString "n") (Pos.mk 19 35 19 36))] [] (Pos.mk 19 30 19 37)) [CmpOp.IsNot] [(Expr.Name (Str.ofString "bool") (Pos.mk 19 45 19 49))] (Pos.mk 19 30 19 49))] (Pos.mk 19 7 19 49)) [(Stmt.Expr (Expr.Call (Expr.Name (Str.ofString "_wall") (Pos.mk 20 8 20 13)) [(Expr.Constant (Const.int 1) 0 (Pos.mk 20 14 20 15))] [] (Pos.mk 20 8 20 16)) (Pos.mk 20 8 20 16))] [] (Pos.mk 19 4 20 16)), (Stmt.Assign [(Expr.Name (Str.ofString "n") (Pos.mk 21 4 21 5))] (Expr.Call (Expr.Name (Str.ofString "int") (Pos.mk 21 8 21 11)) [(Expr.Name (Str.ofString "n") (Pos.mk 21 12 21 13))] [] (Pos.mk 21 8 21 14)) (Pos.mk 21 4 21 14)), (Stmt.If (Expr.BoolOp BoolOp.Or [(Expr.Compare (Expr.Name (Str.ofString "n") (Pos.mk 22 7 22 8)) [CmpOp.Gt] [(Expr.Constant (Const.int 1099511627776) 0 (Pos.mk 22 11 22 24))] (Pos.mk 22 7 22 24)), (Expr.Compare (Expr.Name (Str.ofString "n") (Pos.mk 22 28 22 29)) [CmpOp.Lt] [(Expr.UnaryOp UnaryOp.USub (Expr.Constant (Const.int 1099511627776) 0 (Pos.mk 22 33 22 46)) (Pos.mk 22 32 22 46))] (Pos.mk 22 28 22 46))] (Pos.mk 22 7 22 46)) [(Stmt.Expr (Expr.Call (Expr.Name (Str.ofString "_wall") (Pos.mk 23 8 23 13)) [(Expr.Constant (Const.int 2) 0 (Pos.mk 23 14 23 15))] [] (Pos.mk 23 8 23 16)) (Pos.mk 23 8 23 16))] [] (Pos.mk 22 4 23 16)), (Stmt.Return (some (Expr.Name (Str.ofString "n") (Pos.mk 24 11 24 12))) (Pos.mk 24 4 24 12))]) (Scope.mk ScopeKind.function [((Str.ofString "n"), NameKind.local), ((Str.ofString "what"), NameKind.local), ((Str.ofString "type"), NameKind.globalImplicit), ((Str.ofString "int"), NameKind.globalImplicit), ((Str.ofString "bool"), NameKind.globalImplicit), ((Str.ofString "_wall"), NameKind.globalImplicit)] false false []) 3 [] Value.none Value.none Value.none (Value.str (Str.ofString "io") 400) none (Value.ref 74) Value.none 0)) #[])) ::
  (nat_lit 84, (Obj.mk (Value.type "dict") none (Data.dict #[dk P "__module__" 425 (Value.str (Str.ofString "io") 430), dk P "__firstlineno__" 429 (Value.int 25 428), dk P "__static_attributes__" 432 (Value.ref 83), dk P "__weakref__" 434 (Value.ref 86), dk P "__doc__" 435 Value.none] 3) #[])) ::
  (nat_lit 85, (Obj.mk (Value.type "type") none (Data.cls (ClassData.mk (Str.ofString "UnsupportedOperation") [(Value.type "OSError"), (Value.type "ValueError")] [(Value.ref 85), (Value.type "OSError"), (Value.type "ValueError"), (Value.type "Exception"), (Value.type "BaseException"), (Value.type "object")] 84 (Str.ofString "UnsupportedOperation") true [] [] false none false)) #[(some (Value.ref 76)), none, (some (Value.str (Str.ofString "UnsupportedOperation") 418)), (some (Value.str (Str.ofString "UnsupportedOperation") 426)), (some (Value.builtin "OSError.__new__")), (some (Value.bool true))])) ::
  (nat_lit 101, (Obj.mk (Value.type "code") none (Data.fields #[(Value.str (Str.ofString "__new__") 454), (Value.str (Str.ofString "IOBase.__new__") 455), (Value.str (Str.ofString "/claim/cut.py") 456), (Value.int 30 0), (Value.int 1 0), (Value.int 1 0), (Value.int 0 0), (Value.int 15 0), (Value.ref 96), (Value.bool true), (Value.int 318 0), (Value.ref 97), Value.none, (Value.ref 98), (Value.ref 99), (Value.ref 100), (Value.int 460 0), (Value.int 30 0), (Value.str (Str.ofString "/claim/cut.py") 461)]) #[])) ::
  (nat_lit 102, (Obj.mk (Value.type "function") none (Data.func (FuncData.mk (Str.ofString "__new__") (Str.ofString "IOBase.__new__") (Arguments.mk [(Arg.mk (Str.ofString "cls") none (Pos.mk 30 16 30 19))] [] (some (Arg.mk (Str.ofString "args") none (Pos.mk 30 25 30 29))) [] [] (some (Arg.mk (Str.ofString "kwargs") none (Pos.mk 30 33 30 39))) []) (FuncBody.stmts [(Stmt.If (Expr.BoolOp BoolOp.And [(Expr.Compare (Expr.Name (Str.ofString "cls") (Pos.mk 31 11 31 14)) [CmpOp.IsNot] [(Expr.Name (Str.ofString "BytesIO") (Pos.mk 31 22 31 29))] (Pos.mk 31 11 31 29)), (Expr.Compare (Expr.Name (Str.ofString "cls") (Pos.mk 31 34 31 37)) [CmpOp.IsNot] [(Expr.Name (Str.ofString "StringIO") (Pos.mk 31 45 31 53))] (Pos.mk 31 34 31 53))] (Pos.mk 31 11 31 53)) [(Stmt.Expr (Expr.Call (Expr.Name (Str.ofString "_wall") (Pos.mk 32 12 32 17)) [(Expr.Constant (Const.int 3) 0 (Pos.mk 32 18 32 19))] [] (Pos.mk 32 12 32 20)) (Pos.mk 32 12 32 20))] [] (Pos.mk 31 8 32 20)), (Stmt.Return (some (Expr.Call (Expr.Attribute (Expr.Name (Str.ofString "object") (Pos.mk 33 15 33 21)) (Str.ofString "__new__") (Pos.mk 33 15 33 29)) [(Expr.Name (Str.ofString "cls") (Pos.mk 33 30 33 33))] [] (Pos.mk 33 15 33 34))) (Pos.mk 33 8 33 34))]) (Scope.mk ScopeKind.function [((Str.ofString "cls"), NameKind.local), ((Str.ofString "args"), NameKind.local), ((Str.ofString "kwargs"), NameKind.local), ((Str.ofString "BytesIO"), NameKind.globalImplicit), ((Str.ofString "StringIO"), NameKind.globalImplicit), ((Str.ofString "_wall"), NameKind.globalImplicit), ((Str.ofString "object"), NameKind.globalImplicit)] false false []) 3 [] Value.none Value.none Value.none (Value.str (Str.ofString "io") 400) none (Value.ref 101) Value.none 0)) #[])) ::
  (nat_lit 104, (Obj.mk (Value.type "dict") none (Data.dict #[dk P "__module__" 447 (Value.str (Str.ofString "io") 452), dk P "__firstlineno__" 451 (Value.int 27 450), dk P "__new__" 462 (Value.ref 106), dk P "__static_attributes__" 463 (Value.ref 103), dk P "__dict__" 466 (Value.ref 107), dk P "__weakref__" 468 (Value.ref 108), dk P "__doc__" 469 Value.none] 4) #[])) ::
  (nat_lit 105, (Obj.mk (Value.type "type") none (Data.cls (ClassData.mk (Str.ofString "IOBase") [(Value.type "object")] [(Value.ref 105), (Value.type "object")] 104 (Str.ofString "IOBase") true [] [(Value.ref 120), (Value.ref 132)] false none false)) #[none, none, (some (Value.str (Str.ofString "IOBase") 440)), (some (Value.str (Str.ofString "IOBase") 448)), (some Value.none), (some (Value.bool true))])) ::
  (nat_lit 106, (Obj.mk (Value.type "staticmethod") none (Data.fields #[(Value.ref 102)]) #[])) ::
  (nat_lit 119, (Obj.mk (Value.type "dict") none (Data.dict #[dk P "__module__" 479 (Value.str (Str.ofString "io") 484), dk P "__firstlineno__" 483 (Value.int 34 482), dk P "__static_attributes__" 486 (Value.ref 118), dk P "__doc__" 487 Value.none] 2) #[])) ::
  (nat_lit 120, (Obj.mk (Value.type "type") none (Data.cls (ClassData.mk (Str.ofString "BufferedIOBase") [(Value.ref 105)] [(Value.ref 120), (Value.ref 105), (Value.type "object")] 119 (Str.ofString "BufferedIOBase") true [] [(Value.ref 362)] false none false)) #[(some (Value.ref 111)), none, (some (Value.str (Str.ofString "BufferedIOBase") 472)), (some (Value.str (Str.ofString "BufferedIOBase") 480)), (some Value.none), (some (Value.bool true))])) ::
  (nat_lit 131, (Obj.mk (Value.type "dict") none (Data.dict #[dk P "__module__" 497 (Value.str (Str.ofString "io") 502), dk P "__firstlineno__" 501 (Value.int 36 500), dk P "__static_attributes__" 504 (Value.ref 130), dk P "__doc__" 505 Value.none] 2) #[])) ::
  (nat_lit 132, (Obj.mk (Value.type "type") none (Data.cls (ClassData.mk (Str.ofString "TextIOBase") [(Value.ref 105)] [(Value.ref 132), (Value.ref 105), (Value.type "object")] 131 (Str.ofString "TextIOBase") true [] [(Value.ref 609)] false none false)) #[(some (Value.ref 123)), none, (some (Value.str (Str.ofString "TextIOBase") 490)), (some (Value.str (Str.ofString "TextIOBase") 498)), (some Value.none), (some (Value.bool true))])) ::
  (nat_lit 171, (Obj.mk (Value.type "property") none (Data.fields #[(Value.ref 170), Value.none, Value.none, Value.none, (Value.str (Str.ofString "closed") 555), (Value.bool false)]) #[])) ::
  (nat_lit 361, (Obj.mk (Value.type "dict") none (Data.dict #[dk P "__module__" 515 (Value.str (Str.ofString "_io") 520), dk P "__firstlineno__" 519 (Value.int 38 518), dk P "__init__" 529 (Value.ref 149), dk P "_BytesIO__check" 536 (Value.ref 156), dk P "_BytesIO__line" 547 (Value.ref 163), dk P "closed" 555 (Value.ref 171), dk P "close" 562 (Value.ref 178), dk P "__enter__" 569 (Value.ref 185), dk P "__exit__" 577 (Value.ref 192), dk P "readable" 584 (Value.ref 199), dk P "writable" 591 (Value.ref 206), dk P "seekable" 598 (Value.ref 213), dk P "isatty" 605 (Value.ref 220), dk P "flush" 612 (Value.ref 227), dk P "fileno" 619 (Value.ref 234), dk P "detach" 626 (Value.ref 241), dk P "getvalue" 633 (Value.ref 248), dk P "getbuffer" 640 (Value.ref 255), dk P "tell" 647 (Value.ref 262), dk P "seek" 657 (Value.ref 270), dk P "truncate" 665 (Value.ref 278), dk P "read" 677 (Value.ref 286), dk P "read1" 687 (Value.ref 294), dk P "readinto" 697 (Value.ref 301), dk P "readinto1" 705 (Value.ref 308), dk P "readline" 715 (Value.ref 316), dk P "readlines" 723 (Value.ref 324), dk P "__iter__" 730 (Value.ref 331), dk P "__next__" 738 (Value.ref 338), dk P "write" 748 (Value.ref 345), dk P "writelines" 756 (Value.ref 352), dk P "__repr__" 763 (Value.ref 359), dk P "__static_attributes__" 766 (Value.ref 360), dk P "__doc__" 767 Value.none] 2) #[])) ::
  (nat_lit 362, (Obj.mk (Value.type "type") none (Data.cls (ClassData.mk (Str.ofString "BytesIO") [(Value.ref 120)] [(Value.ref 362), (Value.ref 120), (Value.ref 105), (Value.type "object")] 361 (Str.ofString "BytesIO") true [] [] false none false)) #[(some (Value.ref 135)), none, (some (Value.str (Str.ofString "BytesIO") 508)), (some (Value.str (Str.ofString "BytesIO") 516)), (some Value.none), (some (Value.bool true))])) ::
  (nat_lit 372, (Obj.mk (Value.type "tuple") none (Data.seq #[(Value.str (Str.ofString "") 784), (Value.str (Str.ofString "\n") 785)] 0) #[])) ::
  (nat_lit 378, (Obj.mk (Value.type "code") none (Data.fields #[(Value.str (Str.ofString "__init__") 786), (Value.str (Str.ofString "StringIO.__init__") 787), (Value.str (Str.ofString "/claim/cut.py") 788), (Value.int 211 0), (Value.int 3 0), (Value.int 0 0), (Value.int 0 0), (Value.int 3 0), (Value.ref 373), (Value.bool true), (Value.int 318 0), (Value.ref 374), Value.none, (Value.ref 375), (Value.ref 376), (Value.ref 377), (Value.int 792 0), (Value.int 211 0), (Value.str (Str.ofString "/claim/cut.py") 793)]) #[])) ::
  (nat_lit 379, (Obj.mk (Value.type "function") none (Data.func (FuncData.mk (Str.ofString "__init__") (Str.ofString "StringIO.__init__") (Arguments.mk [] [(Arg.mk (Str.ofString "self") none (Pos.mk 211 17 211 21)), (Arg.mk (Str.ofString "initial_value") none (Pos.mk 211 23 211 36)), (Arg.mk (Str.ofString "newline") none (Pos.mk 211 41 211 48))] none [] [] none [(Expr.Constant (Const.str (Str.ofString "")) 0 (Pos.mk 211 37 211 39)), (Expr.Constant (Const.str (Str.ofString "\n")) 0 (Pos.mk 211 49 211 53))]) (FuncBody.stmts [(Stmt.If (Expr.BoolOp BoolOp.And [(Expr.Compare (Expr.Name (Str.ofString "newline") (Pos.mk 212 11 212 18)) [CmpOp.IsNot] [(Expr.Constant Const.none 0 (Pos.mk 212 26 212 30))] (Pos.mk 212 11 212 30)), (Expr.Compare (Expr.Call (Expr.Name (Str.ofString "type") (Pos.mk 212 35 212 39)) [(Expr.Name (Str.ofString "newline") (Pos.mk 212 40 212 47))] [] (Pos.mk 212 35 212 48)) [CmpOp.IsNot] [(Expr.Name (Str.ofString "str") (Pos.mk 212 56 212 59))] (Pos.mk 212 35 212 59))] (Pos.mk 212 11 212 59)) [(Stmt.Expr (Expr.Call (Expr.Name (Str.ofString "_wall") (Pos.mk 213 12 213 17)) [(Expr.Constant (Const.int 17) 0 (Pos.mk 213 18 213 20))] [] (Pos.mk 213 12 213 21)) (Pos.mk 213 12 213 21))] [] (Pos.mk 212 8 213 21)), (Stmt.If (Expr.BoolOp BoolOp.And [(Expr.Compare (Expr.Name (Str.ofString "newline") (Pos.mk 214 11 214 18)) [CmpOp.IsNot] [(Expr.Constant Const.none 0 (Pos.mk 214 26 214 30))] (Pos.mk 214 11 214 30)), (Expr.Compare (Expr.Name (Str.ofString "newline") (Pos.mk 214 35 214 42)) [CmpOp.NotEq] [(Expr.Constant (Const.str (Str.ofString "")) 0 (Pos.mk 214 46 214 48))] (Pos.mk 214 35 214 48)), (Expr.Compare (Expr.Name (Str.ofString "newline") (Pos.mk 214 54 214 61)) [CmpOp.NotEq] [(Expr.Constant (Const.str (Str.ofString "\n")) 0 (Pos.mk 214 65 214 69))] (Pos.mk 214 54 214 69)), (Expr.Compare (Expr.Name (Str.ofString "newline") (Pos.mk 214 76 214 83)) [CmpOp.NotEq] [(Expr.Constant (Const.str (Str.ofString "\x0d")) 0 (Pos.mk 214 87 214 91))] (Pos.mk 214 76 214 91)), (Expr.Compare (Expr.Name (Str.ofString "newline") (Pos.mk 214 98 214 105)) [CmpOp.NotEq] [(Expr.Constant (Const.str (Str.ofString "\x0d\n")) 0 (Pos.mk 214 109 214 115))] (Pos.mk 214 98 214 115))] (Pos.mk 214 11 214 116)) [(Stmt.Raise (some (Expr.Call (Expr.Name (Str.ofString "ValueError") (Pos.mk 215 18 215 28)) [(Expr.JoinedStr [(Expr.Constant (Const.str (Str.ofString "illegal newline value: ")) 0 (Pos.mk 215 31 215 54)), (Expr.FormattedValue (Expr.Name (Str.ofString "newline") (Pos.mk 215 55 215 62)) 114 none (Pos.mk 215 54 215 65))] (Pos.mk 215 29 215 66))] [] (Pos.mk 215 18 215 67))) none (Pos.mk 215 12 215 67))] [] (Pos.mk 214 8 215 67)), (Stmt.If (Expr.BoolOp BoolOp.And [(Expr.Compare (Expr.Name (Str.ofString "initial_value") (Pos.mk 216 11 216 24)) [CmpOp.IsNot] [(Expr.Constant Const.none 0 (Pos.mk 216 32 216 36))] (Pos.mk 216 11 216 36)), (Expr.Compare (Expr.Call (Expr.Name (Str.ofString "type") (Pos.mk 216 41 216 45)) [(Expr.Name (Str.ofString "initial_value") (Pos.mk 216 46 216 59))] [] (Pos.mk 216 41 216 60)) [CmpOp.IsNot] [(Expr.Name (Str.ofString "str") (Pos.mk 216 68 216 71))] (Pos.mk 216 41 216 71))] (Pos.mk 216 11 216 71)) [(Stmt.Expr (Expr.Call (Expr.Name (Str.ofString "_wall") (Pos.mk 217 12 217 17)) [(Expr.Constant (Const.int 18) 0 (Pos.mk 217 18 217 20))] [] (Pos.mk 217 12 217 21)) (Pos.mk 217 12 217 21))] [] (Pos.mk 216 8 217 21)), (Stmt.Assign [(Expr.Attribute (Expr.Name (Str.ofString "self") (Pos.mk 218 8 218 12)) (Str.ofString "_StringIO__newline") (Pos.mk 218 8 218 22))] (Expr.Name (Str.ofString "newline") (Pos.mk 218 25 218 32)) (Pos.mk 218 8 218 32)), (Stmt.Assign [(Expr.Attribute (Expr.Name (Str.ofString "self") (Pos.mk 219 8 219 12)) (Str.ofString "_StringIO__buf") (Pos.mk 219 8 219 18))] (Expr.Constant (Const.str (Str.ofString "")) 0 (Pos.mk 219 21 219 23)) (Pos.mk 219 8 219 23)), (Stmt.Assign [(Expr.Attribute (Expr.Name (Str.ofString "self") (Pos.mk 220 8 220 12)) (Str.ofString "_StringIO__pos") (Pos.mk 220 8 220 18))] (Expr.Constant (Const.int 0) 0 (Pos.mk 220 21 220 22)) (Pos.mk 220 8 220 22)), (Stmt.If (Expr.Compare (Expr.Name (Str.ofString "initial_value") (Pos.mk 221 11 221 24)) [CmpOp.IsNot] [(Expr.Constant Const.none 0 (Pos.mk 221 32 221 36))] (Pos.mk 221 11 221 36)) [(Stmt.Assign [(Expr.Attribute (Expr.Name (Str.ofString "self") (Pos.mk 222 12 222 16)) (Str.ofString "_StringIO__buf") (Pos.mk 222 12 222 22))] (Expr.Call (Expr.Attribute (Expr.Name (Str.ofString "self") (Pos.mk 222 25 222 29)) (Str.ofString "_StringIO__translated") (Pos.mk 222 25 222 42)) [(Expr.Name (Str.ofString "initial_value") (Pos.mk 222 43 222 56))] [] (Pos.mk 222 25 222 57)) (Pos.mk 222 12 222 57))] [] (Pos.mk 221 8 222 57))]) (Scope.mk ScopeKind.function [((Str.ofString "self"), NameKind.local), ((Str.ofString "initial_value"), NameKind.local), ((Str.ofString "newline"), NameKind.local), ((Str.ofString "type"), NameKind.globalImplicit), ((Str.ofString "str"), NameKind.globalImplicit), ((Str.ofString "_wall"), NameKind.globalImplicit), ((Str.ofString "ValueError"), NameKind.globalImplicit)] false false []) 3 [] (Value.ref 372) Value.none Value.none (Value.str (Str.ofString "io") 400) none (Value.ref 378) Value.none 0)) #[])) ::
  (nat_lit 385, (Obj.mk (Value.type "code") none (Data.fields #[(Value.str (Str.ofString "__translated") 795), (Value.str (Str.ofString "StringIO.__translated") 796), (Value.str (Str.ofString "/claim/cut.py") 797), (Value.int 224 0), (Value.int 2 0), (Value.int 0 0), (Value.int 0 0), (Value.int 3 0), (Value.ref 380), (Value.bool true), (Value.int 318 0), (Value.ref 381), Value.none, (Value.ref 382), (Value.ref 383), (Value.ref 384), (Value.int 801 0), (Value.int 224 0), (Value.str (Str.ofString "/claim/cut.py") 802)]) #[])) ::
  (nat_lit 386, (Obj.mk (Value.type "function") none (Data.func (FuncData.mk (Str.ofString "__translated") (Str.ofString "StringIO.__translated") (Arguments.mk [] [(Arg.mk (Str.ofString "self") none (Pos.mk 224 21 224 25)), (Arg.mk (Str.ofString "s") none (Pos.mk 224 27 224 28))] none [] [] none []) (FuncBody.stmts [(Stmt.Assign [(Expr.Name (Str.ofString "newline") (Pos.mk 225 8 225 15))] (Expr.Attribute (Expr.Name (Str.ofString "self") (Pos.mk 225 18 225 22)) (Str.ofString "_StringIO__newline") (Pos.mk 225 18 225 32)) (Pos.mk 225 8 225 32)), (Stmt.If (Expr.Compare (Expr.Name (Str.ofString "newline") (Pos.mk 226 11 226 18)) [CmpOp.Is] [(Expr.Constant Const.none 0 (Pos.mk 226 22 226 26))] (Pos.mk 226 11 226 26)) [(Stmt.Return (some (Expr.Call (Expr.Attribute (Expr.Call (Expr.Attribute (Expr.Name (Str.ofString "s") (Pos.mk 227 19 227 20)) (Str.ofString "replace") (Pos.mk 227 19 227 28)) [(Expr.Constant (Const.str (Str.ofString "\x0d\n")) 0 (Pos.mk 227 29 227 35)), (Expr.Constant (Const.str (Str.ofString "\n")) 0 (Pos.mk 227 37 227 41))] [] (Pos.mk 227 19 227 42)) (Str.ofString "replace") (Pos.mk 227 19 227 50)) [(Expr.Constant (Const.str (Str.ofString "\x0d")) 0 (Pos.mk 227 51 227 55)), (Expr.Constant (Const.str (Str.ofString "\n")) 0 (Pos.mk 227 57 227 61))] [] (Pos.mk 227 19 227 62))) (Pos.mk 227 12 227 62))] [] (Pos.mk 226 8 227 62)), (Stmt.If (Expr.BoolOp BoolOp.Or [(Expr.Compare (Expr.Name (Str.ofString "newline") (Pos.mk 228 11 228 18)) [CmpOp.Eq] [(Expr.Constant (Const.str (Str.ofString "\x0d")) 0 (Pos.mk 228 22 228 26))] (Pos.mk 228 11 228 26)), (Expr.Compare (Expr.Name (Str.ofString "newline") (Pos.mk 228 30 228 37)) [CmpOp.Eq] [(Expr.Constant (Const.str (Str.ofString "\x0d\n")) 0 (Pos.mk 228 41 228 47))] (Pos.mk 228 30 228 47))] (Pos.mk 228 11 228 47)) [(Stmt.Return (some (Expr.Call (Expr.Attribute (Expr.Name (Str.ofString "s") (Pos.mk 229 19 229 20)) (Str.ofString "replace") (Pos.mk 229 19 229 28)) [(Expr.Constant (Const.str (Str.ofString "\n")) 0 (Pos.mk 229 29 229 33)), (Expr.Name (Str.ofString "newline") (Pos.mk 229 35 229 42))] [] (Pos.mk 229 19 229 43))) (Pos.mk 229 12 229 43))] [] (Pos.mk 228 8 229 43)), (Stmt.Return (some (Expr.Name (Str.ofString "s") (Pos.mk 230 15 230 16))) (Pos.mk 230 8 230 16))]) (Scope.mk ScopeKind.function [((Str.ofString "self"), NameKind.local), ((Str.ofString "s"), NameKind.local), ((Str.ofString "newline"), NameKind.local)] false false []) 3 [] Value.none Value.none Value.none (Value.str (Str.ofString "io") 400) none (Value.ref 385) Value.none 0)) #[])) ::
  (nat_lit 392, (Obj.mk (Value.type "code") none (Data.fields #[(Value.str (Str.ofString "__check") 804), (Value.str (Str.ofString "StringIO.__check") 805), (Value.str (Str.ofString "/claim/cut.py") 806), (Value.int 232 0), (Value.int 1 0), (Value.int 0 0), (Value.int 0 0), (Value.int 3 0), (Value.ref 387), (Value.bool true), (Value.int 318 0), (Value.ref 388), Value.none, (Value.ref 389), (Value.ref 390), (Value.ref 391), (Value.int 808 0), (Value.int 232 0), (Value.str (Str.ofString "/claim/cut.py") 809)]) #[])) ::
  (nat_lit 393, (Obj.mk (Value.type "function") none (Data.func (FuncData.mk (Str.ofString "__check") (Str.ofString "StringIO.__check") (Arguments.mk [] [(Arg.mk (Str.ofString "self") none (Pos.mk 232 16 232 20))] none [] [] none []) (FuncBody.stmts [(Stmt.If (Expr.Compare (Expr.Attribute (Expr.Name (Str.ofString "self") (Pos.mk 233 11 233 15)) (Str.ofString "_StringIO__buf") (Pos.mk 233 11 233 21)) [CmpOp.Is] [(Expr.Constant Const.none 0 (Pos.mk 233 25 233 29))] (Pos.mk 233 11 233 29)) [(Stmt.Raise (some (Expr.Call (Expr.Name (Str.ofString "ValueError") (Pos.mk 234 18 234 28)) [(Expr.Constant (Const.str (Str.ofString "I/O operation on closed file")) 0 (Pos.mk 234 29 234 59))] [] (Pos.mk 234 18 234 60))) none (Pos.mk 234 12 234 60))] [] (Pos.mk 233 8 234 60))]) (Scope.mk ScopeKind.function [((Str.ofString "self"), NameKind.local), ((Str.ofString "ValueError"), NameKind.globalImplicit)] false false []) 3 [] Value.none Value.none Value.none (Value.str (Str.ofString "io") 400) none (Value.ref 392) Value.none 0)) #[])) ::
  (nat_lit 415, (Obj.mk (Value.type "property") none (Data.fields #[(Value.ref 414), Value.none, Value.none, Value.none, (Value.str (Str.ofString "closed") 840), (Value.bool false)]) #[])) ::
  (nat_lit 423, (Obj.mk (Value.type "property") none (Data.fields #[(Value.ref 422), Value.none, Value.none, Value.none, (Value.str (Str.ofString "line_buffering") 848), (Value.bool false)]) #[])) ::
  (nat_lit 431, (Obj.mk (Value.type "property") none (Data.fields #[(Value.ref 430), Value.none, Value.none, Value.none, (Value.str (Str.ofString "newlines") 856), (Value.bool false)]) #[])) ::
  (nat_lit 439, (Obj.mk (Value.type "property") none (Data.fields #[(Value.ref 438), Value.none, Value.none, Value.none, (Value.str (Str.ofString "encoding") 864), (Value.bool false)]) #[])) ::
  (nat_lit 447, (Obj.mk (Value.type "property") none (Data.fields #[(Value.ref 446), Value.none, Value.none, Value.none, (Value.str (Str.ofString "errors") 872), (Value.bool false)]) #[])) ::
  (nat_lit 548, (Obj.mk (Value.type "tuple") none (Data.seq #[(Value.int (-1) 977)] 0) #[])) ::
  (nat_lit 554, (Obj.mk (Value.type "code") none (Data.fields #[(Value.str (Str.ofString "read") 978), (Value.str (Str.ofString "StringIO.read") 979), (Value.str (Str.ofString "/claim/cut.py") 980), (Value.int 354 0), (Value.int 2 0), (Value.int 2 0), (Value.int 0 0), (Value.int 3 0), (Value.ref 549), (Value.bool true), (Value.int 318 0), (Value.ref 550), Value.none, (Value.ref 551), (Value.ref 552), (Value.ref 553), (Value.int 985 0), (Value.int 354 0), (Value.str (Str.ofString "/claim/cut.py") 986)]) #[])) ::
  (nat_lit 555, (Obj.mk (Value.type "function") none (Data.func (FuncData.mk (Str.ofString "read") (Str.ofString "StringIO.read") (Arguments.mk [(Arg.mk (Str.ofString "self") none (Pos.mk 354 13 354 17)), (Arg.mk (Str.ofString "size") none (Pos.mk 354 19 354 23))] [] none [] [] none [(Expr.UnaryOp UnaryOp.USub (Expr.Constant (Const.int 1) 0 (Pos.mk 354 25 354 26)) (Pos.mk 354 24 354 26))]) (FuncBody.stmts [(Stmt.If (Expr.Compare (Expr.Name (Str.ofString "size") (Pos.mk 355 11 355 15)) [CmpOp.Is] [(Expr.Constant Const.none 0 (Pos.mk 355 19 355 23))] (Pos.mk 355 11 355 23)) [(Stmt.Assign [(Expr.Name (Str.ofString "size") (Pos.mk 356 12 356 16))] (Expr.UnaryOp UnaryOp.USub (Expr.Constant (Const.int 1) 0 (Pos.mk 356 20 356 21)) (Pos.mk 356 19 356 21)) (Pos.mk 356 12 356 21))] [] (Pos.mk 355 8 356 21)), (Stmt.Assign [(Expr.Name (Str.ofString "size") (Pos.mk 357 8 357 12))] (Expr.Call (Expr.Name (Str.ofString "_index") (Pos.mk 357 15 357 21)) [(Expr.Name (Str.ofString "size") (Pos.mk 357 22 357 26)), (Expr.Constant (Const.str (Str.ofString "StringIO.read of a size that is no exact int")) 0 (Pos.mk 357 28 357 74))] [] (Pos.mk 357 15 357 75)) (Pos.mk 357 8 357 75)), (Stmt.Expr (Expr.Call (Expr.Attribute (Expr.Name (Str.ofString "self") (Pos.mk 358 8 358 12)) (Str.ofString "_StringIO__check") (Pos.mk 358 8 358 20)) [] [] (Pos.mk 358 8 358 22)) (Pos.mk 358 8 358 22)), (Stmt.Assign [(Expr.Name (Str.ofString "start") (Pos.mk 359 8 359 13))] (Expr.Attribute (Expr.Name (Str.ofString "self") (Pos.mk 359 16 359 20)) (Str.ofString "_StringIO__pos") (Pos.mk 359 16 359 26)) (Pos.mk 359 8 359 26)), (Stmt.Assign [(Expr.Name (Str.ofString "stop") (Pos.mk 360 8 360 12))] (Expr.Call (Expr.Name (Str.ofString "len") (Pos.mk 360 15 360 18)) [(Expr.Attribute (Expr.Name (Str.ofString "self") (Pos.mk 360 19 360 23)) (Str.ofString "_StringIO__buf") (Pos.mk 360 19 360 29))] [] (Pos.mk 360 15 360 30)) (Pos.mk 360 8 360 30)), (Stmt.If (Expr.Compare (Expr.Name (Str.ofString "start") (Pos.mk 361 11 361 16)) [CmpOp.GtE] [(Expr.Name (Str.ofString "stop") (Pos.mk 361 20 361 24))] (Pos.mk 361 11 361 24)) [(Stmt.Return (some (Expr.Constant (Const.str (Str.ofString "")) 0 (Pos.mk 362 19 362 21))) (Pos.mk 362 12 362 21))] [] (Pos.mk 361 8 362 21)), (Stmt.If (Expr.BoolOp BoolOp.And [(Expr.Compare (Expr.Name (Str.ofString "size") (Pos.mk 363 11 363 15)) [CmpOp.GtE] [(Expr.Constant (Const.int 0) 0 (Pos.mk 363 19 363 20))] (Pos.mk 363 11 363 20)), (Expr.Compare (Expr.BinOp (Expr.Name (Str.ofString "start") (Pos.mk 363 25 363 30)) Operator.Add (Expr.Name (Str.ofString "size") (Pos.mk 363 33 363 37)) (Pos.mk 363 25 363 37)) [CmpOp.Lt] [(Expr.Name (Str.ofString "stop") (Pos.mk 363 40 363 44))] (Pos.mk 363 25 363 44))] (Pos.mk 363 11 363 44)) [(Stmt.Assign [(Expr.Name (Str.ofString "stop") (Pos.mk 364 12 364 16))] (Expr.BinOp (Expr.Name (Str.ofString "start") (Pos.mk 364 19 364 24)) Operator.Add (Expr.Name (Str.ofString "size") (Pos.mk 364 27 364 31)) (Pos.mk 364 19 364 31)) (Pos.mk 364 12 364 31))] [] (Pos.mk 363 8 364 31)), (Stmt.Assign [(Expr.Attribute (Expr.Name (Str.ofString "self") (Pos.mk 365 8 365 12)) (Str.ofString "_StringIO__pos") (Pos.mk 365 8 365 18))] (Expr.Name (Str.ofString "stop") (Pos.mk 365 21 365 25)) (Pos.mk 365 8 365 25)), (Stmt.Return (some (Expr.Subscript (Expr.Attribute (Expr.Name (Str.ofString "self") (Pos.mk 366 15 366 19)) (Str.ofString "_StringIO__buf") (Pos.mk 366 15 366 25)) (Expr.Slice (some (Expr.Name (Str.ofString "start") (Pos.mk 366 26 366 31))) (some (Expr.Name (Str.ofString "stop") (Pos.mk 366 32 366 36))) none (Pos.mk 366 26 366 36)) (Pos.mk 366 15 366 37))) (Pos.mk 366 8 366 37))]) (Scope.mk ScopeKind.function [((Str.ofString "self"), NameKind.local), ((Str.ofString "size"), NameKind.local), ((Str.ofString "start"), NameKind.local), ((Str.ofString "stop"), NameKind.local), ((Str.ofString "_index"), NameKind.globalImplicit), ((Str.ofString "len"), NameKind.globalImplicit)] false false []) 3 [] (Value.ref 548) Value.none Value.none (Value.str (Str.ofString "io") 400) none (Value.ref 554) Value.none 0)) #[])) ::
  (nat_lit 608, (Obj.mk (Value.type "dict") none (Data.dict #[dk P "__module__" 777 (Value.str (Str.ofString "_io") 782), dk P "__firstlineno__" 781 (Value.int 208 780), dk P "__init__" 794 (Value.ref 379), dk P "_StringIO__translated" 803 (Value.ref 386), dk P "_StringIO__check" 810 (Value.ref 393), dk P "_StringIO__check_dot" 817 (Value.ref 400), dk P "_StringIO__line" 832 (Value.ref 407), dk P "closed" 840 (Value.ref 415), dk P "line_buffering" 848 (Value.ref 423), dk P "newlines" 856 (Value.ref 431), dk P "encoding" 864 (Value.ref 439), dk P "errors" 872 (Value.ref 447), dk P "close" 879 (Value.ref 454), dk P "__enter__" 886 (Value.ref 461), dk P "__exit__" 894 (Value.ref 468), dk P "readable" 901 (Value.ref 475), dk P "writable" 908 (Value.ref 482), dk P "seekable" 915 (Value.ref 489), dk P "isatty" 922 (Value.ref 496), dk P "flush" 929 (Value.ref 503), dk P "fileno" 936 (Value.ref 510), dk P "detach" 943 (Value.ref 517), dk P "getvalue" 950 (Value.ref 524), dk P "tell" 957 (Value.ref 531), dk P "seek" 967 (Value.ref 539), dk P "truncate" 975 (Value.ref 547), dk P "read" 987 (Value.ref 555), dk P "readline" 997 (Value.ref 563), dk P "readlines" 1007 (Value.ref 571), dk P "__iter__" 1014 (Value.ref 578), dk P "__next__" 1022 (Value.ref 585), dk P "write" 1034 (Value.ref 592), dk P "writelines" 1042 (Value.ref 599), dk P "__repr__" 1049 (Value.ref 606), dk P "__static_attributes__" 1053 (Value.ref 607), dk P "__doc__" 1054 Value.none] 2) #[])) ::
  (nat_lit 609, (Obj.mk (Value.type "type") none (Data.cls (ClassData.mk (Str.ofString "StringIO") [(Value.ref 132)] [(Value.ref 609), (Value.ref 132), (Value.ref 105), (Value.type "object")] 608 (Str.ofString "StringIO") true [] [] false none false)) #[(some (Value.ref 365)), none, (some (Value.str (Str.ofString "StringIO") 770)), (some (Value.str (Str.ofString "StringIO") 778)), (some Value.none), (some (Value.bool true))])) ::
  (nat_lit 661, (Obj.mk (Value.type "tuple") none (Data.seq #[Value.none, Value.none, (Value.bool false), (Value.bool false)] 0) #[])) ::
  (nat_lit 667, (Obj.mk (Value.type "code") none (Data.fields #[(Value.str (Str.ofString "__init__") 1129), (Value.str (Str.ofString "shlex.__init__") 1130), (Value.str (Str.ofString "/claim/cut.py") 1131), (Value.int 479 0), (Value.int 5 0), (Value.int 0 0), (Value.int 0 0), (Value.int 3 0), (Value.ref 662), (Value.bool true), (Value.int 318 0), (Value.ref 663), Value.none, (Value.ref 664), (Value.ref 665), (Value.ref 666), (Value.int 1138 0), (Value.int 479 0), (Value.str (Str.ofString "/claim/cut.py") 1139)]) #[])) ::
  (nat_lit 668, (Obj.mk (Value.type "function") none (Data.func (FuncData.mk (Str.ofString "__init__") (Str.ofString "shlex.__init__") (Arguments.mk [] [(Arg.mk (Str.ofString "self") none (Pos.mk 479 17 479 21)), (Arg.mk (Str.ofString "instream") none (Pos.mk 479 23 479 31)), (Arg.mk (Str.ofString "infile") none (Pos.mk 479 38 479 44)), (Arg.mk (Str.ofString "posix") none (Pos.mk 479 51 479 56)), (Arg.mk (Str.ofString "punctuation_chars") none (Pos.mk 479 64 479 81))] none [] [] none [(Expr.Constant Const.none 0 (Pos.mk 479 32 479 36)), (Expr.Constant Const.none 0 (Pos.mk 479 45 479 49)), (Expr.Constant (Const.bool false) 0 (Pos.mk 479 57 479 62)), (Expr.Constant (Const.bool false) 0 (Pos.mk 479 82 479 87))]) (FuncBody.stmts [(Stmt.If (Expr.Call (Expr.Name (Str.ofString "isinstance") (Pos.mk 480 11 480 21)) [(Expr.Name (Str.ofString "instream") (Pos.mk 480 22 480 30)), (Expr.Name (Str.ofString "str") (Pos.mk 480 32 480 35))] [] (Pos.mk 480 11 480 36)) [(Stmt.Assign [(Expr.Name (Str.ofString "instream") (Pos.mk 481 12 481 20))] (Expr.Call (Expr.Name (Str.ofString "StringIO") (Pos.mk 481 23 481 31)) [(Expr.Name (Str.ofString "instream") (Pos.mk 481 32 481 40))] [] (Pos.mk 481 23 481 41)) (Pos.mk 481 12 481 41))] [] (Pos.mk 480 8 481 41)), (Stmt.If (Expr.Compare (Expr.Name (Str.ofString "instream") (Pos.mk 482 11 482 19)) [CmpOp.IsNot] [(Expr.Constant Const.none 0 (Pos.mk 482 27 482 31))] (Pos.mk 482 11 482 31)) [(Stmt.Assign [(Expr.Attribute (Expr.Name (Str.ofString "self") (Pos.mk 483 12 483 16)) (Str.ofString "instream") (Pos.mk 483 12 483 25))] (Expr.Name (Str.ofString "instream") (Pos.mk 483 28 483 36)) (Pos.mk 483 12 483 36)), (Stmt.Assign [(Expr.Attribute (Expr.Name (Str.ofString "self") (Pos.mk 484 12 484 16)) (Str.ofString "infile") (Pos.mk 484 12 484 23))] (Expr.Name (Str.ofString "infile") (Pos.mk 484 26 484 32)) (Pos.mk 484 12 484 32))] [(Stmt.Assign [(Expr.Attribute (Expr.Name (Str.ofString "self") (Pos.mk 486 12 486 16)) (Str.ofString "instream") (Pos.mk 486 12 486 25))] (Expr.Call (Expr.Name (Str.ofString "_wall") (Pos.mk 486 28 486 33)) [(Expr.Constant (Const.int 34) 0 (Pos.mk 486 34 486 36))] [] (Pos.mk 486 28 486 37)) (Pos.mk 486 12 486 37)), (Stmt.Assign [(Expr.Attribute (Expr.Name (Str.ofString "self") (Pos.mk 487 12 487 16)) (Str.ofString "infile") (Pos.mk 487 12 487 23))] (Expr.Constant Const.none 0 (Pos.mk 487 26 487 30)) (Pos.mk 487 12 487 30))] (Pos.mk 482 8 487 30)), (Stmt.Assign [(Expr.Attribute (Expr.Name (Str.ofString "self") (Pos.mk 488 8 488 12)) (Str.ofString "posix") (Pos.mk 488 8 488 18))] (Expr.Name (Str.ofString "posix") (Pos.mk 488 21 488 26)) (Pos.mk 488 8 488 26)), (Stmt.If (Expr.Name (Str.ofString "posix") (Pos.mk 489 11 489 16)) [(Stmt.Assign [(Expr.Attribute (Expr.Name (Str.ofString "self") (Pos.mk 490 12 490 16)) (Str.ofString "eof") (Pos.mk 490 12 490 20))] (Expr.Constant Const.none 0 (Pos.mk 490 23 490 27)) (Pos.mk 490 12 490 27))] [(Stmt.Assign [(Expr.Attribute (Expr.Name (Str.ofString "self") (Pos.mk 492 12 492 16)) (Str.ofString "eof") (Pos.mk 492 12 492 20))] (Expr.Constant (Const.str (Str.ofString "")) 0 (Pos.mk 492 23 492 25)) (Pos.mk 492 12 492 25))] (Pos.mk 489 8 492 25)), (Stmt.Assign [(Expr.Attribute (Expr.Name (Str.ofString "self") (Pos.mk 493 8 493 12)) (Str.ofString "commenters") (Pos.mk 493 8 493 23))] (Expr.Constant (Const.str (Str.ofString "#")) 0 (Pos.mk 493 26 493 29)) (Pos.mk 493 8 493 29)), (Stmt.Assign [(Expr.Attribute (Expr.Name (Str.ofString "self") (Pos.mk 494 8 494 12)) (Str.ofString "wordchars") (Pos.mk 494 8 494 22))] (Expr.Constant (Const.str (Str.ofString "abcdfeghijklmnopqrstuvwxyzABCDEFGHIJKLMNOPQRSTUVWXYZ0123456789_")) 0 (Pos.mk 494 25 494 90)) (Pos.mk 494 8 494 90)), (Stmt.If (Expr.Attribute (Expr.Name (Str.ofString "self") (Pos.mk 495 11 495 15)) (Str.ofString "posix") (Pos.mk 495 11 495 21)) [(Stmt.AugAssign (Expr.Attribute (Expr.Name (Str.ofString "self") (Pos.mk 496 12 496 16)) (Str.ofString "wordchars") (Pos.mk 496 12 496 26)) Operator.Add (Expr.Constant (Const.str (Str.ofString "ßàáâãäåæçèéêëìíîïðñòóôõöøùúûüýþÿÀÁÂÃÄÅÆÇÈÉÊËÌÍÎÏÐÑÒÓÔÕÖØÙÚÛÜÝÞ")) 0 (Pos.mk 496 30 496 156)) (Pos.mk 496 12 496 156))] [] (Pos.mk 495 8 496 156)), (Stmt.Assign [(Expr.Attribute (Expr.Name (Str.ofString "self") (Pos.mk 497 8 497 12)) (Str.ofString "whitespace") (Pos.mk 497 8 497 23))] (Expr.Constant (Const.str (Str.ofString " \t\x0d\n")) 0 (Pos.mk 497 26 497 35)) (Pos.mk 497 8 497 35)), (Stmt.Assign [(Expr.Attribute (Expr.Name (Str.ofString "self") (Pos.mk 498 8 498 12)) (Str.ofString "whitespace_split") (Pos.mk 498 8 498 29))] (Expr.Constant (Const.bool false) 0 (Pos.mk 498 32 498 37)) (Pos.mk 498 8 498 37)), (Stmt.Assign [(Expr.Attribute (Expr.Name (Str.ofString "self") (Pos.mk 499 8 499 12)) (Str.ofString "quotes") (Pos.mk 499 8 499 19))] (Expr.Constant (Const.str (Str.ofString "'\"")) 0 (Pos.mk 499 22 499 27)) (Pos.mk 499 8 499 27)), (Stmt.Assign [(Expr.Attribute (Expr.Name (Str.ofString "self") (Pos.mk 500 8 500 12)) (Str.ofString "escape") (Pos.mk 500 8 500 19))] (Expr.Constant (Const.str (Str.ofString "\\")) 0 (Pos.mk 500 22 500 26)) (Pos.mk 500 8 500 26)), (Stmt.Assign [(Expr.Attribute (Expr.Name (Str.ofString "self") (Pos.mk 501 8 501 12)) (Str.ofString "escapedquotes") (Pos.mk 501 8 501 26))] (Expr.Constant (Const.str (Str.ofString "\"")) 0 (Pos.mk 501 29 501 32)) (Pos.mk 501 8 501 32)), (Stmt.Assign [(Expr.Attribute (Expr.Name (Str.ofString "self") (Pos.mk 502 8 502 12)) (Str.ofString "state") (Pos.mk 502 8 502 18))] (Expr.Constant (Const.str (Str.ofString " ")) 0 (Pos.mk 502 21 502 24)) (Pos.mk 502 8 502 24)), (Stmt.Assign [(Expr.Attribute (Expr.Name (Str.ofString "self") (Pos.mk 503 8 503 12)) (Str.ofString "pushback") (Pos.mk 503 8 503 21))] (Expr.Call (Expr.Name (Str.ofString "deque") (Pos.mk 503 24 503 29)) [] [] (Pos.mk 503 24 503 31)) (Pos.mk 503 8 503 31)), (Stmt.Assign [(Expr.Attribute (Expr.Name (Str.ofString "self") (Pos.mk 504 8 504 12)) (Str.ofString "lineno") (Pos.mk 504 8 504 19))] (Expr.Constant (Const.int 1) 0 (Pos.mk 504 22 504 23)) (Pos.mk 504 8 504 23)), (Stmt.Assign [(Expr.Attribute (Expr.Name (Str.ofString "self") (Pos.mk 505 8 505 12)) (Str.ofString "debug") (Pos.mk 505 8 505 18))] (Expr.Constant (Const.int 0) 0 (Pos.mk 505 21 505 22)) (Pos.mk 505 8 505 22)), (Stmt.Assign [(Expr.Attribute (Expr.Name (Str.ofString "self") (Pos.mk 506 8 506 12)) (Str.ofString "token") (Pos.mk 506 8 506 18))] (Expr.Constant (Const.str (Str.ofString "")) 0 (Pos.mk 506 21 506 23)) (Pos.mk 506 8 506 23)), (Stmt.Assign [(Expr.Attribute (Expr.Name (Str.ofString "self") (Pos.mk 507 8 507 12)) (Str.ofString "filestack") (Pos.mk 507 8 507 22))] (Expr.Call (Expr.Name (Str.ofString "deque") (Pos.mk 507 25 507 30)) [] [] (Pos.mk 507 25 507 32)) (Pos.mk 507 8 507 32)), (Stmt.Assign [(Expr.Attribute (Expr.Name (Str.ofString "self") (Pos.mk 508 8 508 12)) (Str.ofString "source") (Pos.mk 508 8 508 19))] (Expr.Constant Const.none 0 (Pos.mk 508 22 508 26)) (Pos.mk 508 8 508 26)), (Stmt.If (Expr.UnaryOp UnaryOp.Not (Expr.Name (Str.ofString "punctuation_chars") (Pos.mk 509 15 509 32)) (Pos.mk 509 11 509 32)) [(Stmt.Assign [(Expr.Name (Str.ofString "punctuation_chars") (Pos.mk 510 12 510 29))] (Expr.Constant (Const.str (Str.ofString "")) 0 (Pos.mk 510 32 510 34)) (Pos.mk 510 12 510 34))] [(Stmt.If (Expr.Compare (Expr.Name (Str.ofString "punctuation_chars") (Pos.mk 511 13 511 30)) [CmpOp.Is] [(Expr.Constant (Const.bool true) 0 (Pos.mk 511 34 511 38))] (Pos.mk 511 13 511 38)) [(Stmt.Assign [(Expr.Name (Str.ofString "punctuation_chars") (Pos.mk 512 12 512 29))] (Expr.Constant (Const.str (Str.ofString "();<>|&")) 0 (Pos.mk 512 32 512 41)) (Pos.mk 512 12 512 41))] [] (Pos.mk 511 8 512 41))] (Pos.mk 509 8 512 41)), (Stmt.Assign [(Expr.Attribute (Expr.Name (Str.ofString "self") (Pos.mk 513 8 513 12)) (Str.ofString "_punctuation_chars") (Pos.mk 513 8 513 31))] (Expr.Name (Str.ofString "punctuation_chars") (Pos.mk 513 34 513 51)) (Pos.mk 513 8 513 51)), (Stmt.If (Expr.Name (Str.ofString "punctuation_chars") (Pos.mk 514 11 514 28)) [(Stmt.Assign [(Expr.Attribute (Expr.Name (Str.ofString "self") (Pos.mk 515 12 515 16)) (Str.ofString "_pushback_chars") (Pos.mk 515 12 515 32))] (Expr.Call (Expr.Name (Str.ofString "deque") (Pos.mk 515 35 515 40)) [] [] (Pos.mk 515 35 515 42)) (Pos.mk 515 12 515 42)), (Stmt.AugAssign (Expr.Attribute (Expr.Name (Str.ofString "self") (Pos.mk 516 12 516 16)) (Str.ofString "wordchars") (Pos.mk 516 12 516 26)) Operator.Add (Expr.Constant (Const.str (Str.ofString "~-./*?=")) 0 (Pos.mk 516 30 516 39)) (Pos.mk 516 12 516 39)), (Stmt.Assign [(Expr.Name (Str.ofString "t") (Pos.mk 517 12 517 13))] (Expr.Call (Expr.Attribute (Expr.Attribute (Expr.Name (Str.ofString "self") (Pos.mk 517 16 517 20)) (Str.ofString "wordchars") (Pos.mk 517 16 517 30)) (Str.ofString "maketrans") (Pos.mk 517 16 517 40)) [(Expr.Call (Expr.Attribute (Expr.Name (Str.ofString "dict") (Pos.mk 517 41 517 45)) (Str.ofString "fromkeys") (Pos.mk 517 41 517 54)) [(Expr.Name (Str.ofString "punctuation_chars") (Pos.mk 517 55 517 72))] [] (Pos.mk 517 41 517 73))] [] (Pos.mk 517 16 517 74)) (Pos.mk 517 12 517 74)), (Stmt.Assign [(Expr.Attribute (Expr.Name (Str.ofString "self") (Pos.mk 518 12 518 16)) (Str.ofString "wordchars") (Pos.mk 518 12 518 26))] (Expr.Call (Expr.Attribute (Expr.Attribute (Expr.Name (Str.ofString "self") (Pos.mk 518 29 518 33)) (Str.ofString "wordchars") (Pos.mk 518 29 518 43)) (Str.ofString "translate") (Pos.mk 518 29 518 53)) [(Expr.Name (Str.ofString "t") (Pos.mk 518 54 518 55))] [] (Pos.mk 518 29 518 56)) (Pos.mk 518 12 518 56))] [] (Pos.mk 514 8 518 56))]) (Scope.mk ScopeKind.function [((Str.ofString "self"), NameKind.local), ((Str.ofString "instream"), NameKind.local), ((Str.ofString "infile"), NameKind.local), ((Str.ofString "posix"), NameKind.local), ((Str.ofString "punctuation_chars"), NameKind.local), ((Str.ofString "t"), NameKind.local), ((Str.ofString "isinstance"), NameKind.globalImplicit), ((Str.ofString "str"), NameKind.globalImplicit), ((Str.ofString "StringIO"), NameKind.globalImplicit), ((Str.ofString "_wall"), NameKind.globalImplicit), ((Str.ofString "deque"), NameKind.globalImplicit), ((Str.ofString "dict"), NameKind.globalImplicit)] false false []) 3 [] (Value.ref 661) Value.none Value.none (Value.str (Str.ofString "cpy313.shlex") 1115) none (Value.ref 667) Value.none 0)) #[])) ::
  (nat_lit 674, (Obj.mk (Value.type "code") none (Data.fields #[(Value.str (Str.ofString "punctuation_chars") 1141), (Value.str (Str.ofString "shlex.punctuation_chars") 1142), (Value.str (Str.ofString "/claim/cut.py") 1143), (Value.int 520 0), (Value.int 1 0), (Value.int 0 0), (Value.int 0 0), (Value.int 3 0), (Value.ref 669), (Value.bool true), (Value.int 318 0), (Value.ref 670), Value.none, (Value.ref 671), (Value.ref 672), (Value.ref 673), (Value.int 1145 0), (Value.int 520 0), (Value.str (Str.ofString "/claim/cut.py") 1146)]) #[])) ::
  (nat_lit 675, (Obj.mk (Value.type "function") none (Data.func (FuncData.mk (Str.ofString "punctuation_chars") (Str.ofString "shlex.punctuation_chars") (Arguments.mk [] [(Arg.mk (Str.ofString "self") none (Pos.mk 521 26 521 30))] none [] [] none []) (FuncBody.stmts [(Stmt.Return (some (Expr.Attribute (Expr.Name (Str.ofString "self") (Pos.mk 522 15 522 19)) (Str.ofString "_punctuation_chars") (Pos.mk 522 15 522 38))) (Pos.mk 522 8 522 38))]) (Scope.mk ScopeKind.function [((Str.ofString "self"), NameKind.local)] false false []) 3 [] Value.none Value.none Value.none (Value.str (Str.ofString "cpy313.shlex") 1115) none (Value.ref 674) Value.none 0)) #[])) ::
  (nat_lit 676, (Obj.mk (Value.type "property") none (Data.fields #[(Value.ref 675), Value.none, Value.none, Value.none, (Value.str (Str.ofString "punctuation_chars") 1148), (Value.bool false)]) #[])) ::
  (nat_lit 704, (Obj.mk (Value.type "code") none (Data.fields #[(Value.str (Str.ofString "get_token") 1173), (Value.str (Str.ofString "shlex.get_token") 1174), (Value.str (Str.ofString "/claim/cut.py") 1175), (Value.int 547 0), (Value.int 1 0), (Value.int 0 0), (Value.int 0 0), (Value.int 3 0), (Value.ref 699), (Value.bool true), (Value.int 318 0), (Value.ref 700), Value.none, (Value.ref 701), (Value.ref 702), (Value.ref 703), (Value.int 1182 0), (Value.int 547 0), (Value.str (Str.ofString "/claim/cut.py") 1183)]) #[])) ::
  (nat_lit 705, (Obj.mk (Value.type "function") none (Data.func (FuncData.mk (Str.ofString "get_token") (Str.ofString "shlex.get_token") (Arguments.mk [] [(Arg.mk (Str.ofString "self") none (Pos.mk 547 18 547 22))] none [] [] none []) (FuncBody.stmts [(Stmt.If (Expr.Attribute (Expr.Name (Str.ofString "self") (Pos.mk 548 11 548 15)) (Str.ofString "pushback") (Pos.mk 548 11 548 24)) [(Stmt.Assign [(Expr.Name (Str.ofString "tok") (Pos.mk 549 12 549 15))] (Expr.Call (Expr.Attribute (Expr.Attribute (Expr.Name (Str.ofString "self") (Pos.mk 549 18 549 22)) (Str.ofString "pushback") (Pos.mk 549 18 549 31)) (Str.ofString "popleft") (Pos.mk 549 18 549 39)) [] [] (Pos.mk 549 18 549 41)) (Pos.mk 549 12 549 41)), (Stmt.If (Expr.Compare (Expr.Attribute (Expr.Name (Str.ofString "self") (Pos.mk 550 15 550 19)) (Str.ofString "debug") (Pos.mk 550 15 550 25)) [CmpOp.GtE] [(Expr.Constant (Const.int 1) 0 (Pos.mk 550 29 550 30))] (Pos.mk 550 15 550 30)) [(Stmt.Expr (Expr.Call (Expr.Name (Str.ofString "print") (Pos.mk 551 16 551 21)) [(Expr.BinOp (Expr.Constant (Const.str (Str.ofString "shlex: popping token ")) 0 (Pos.mk 551 22 551 45)) Operator.Add (Expr.Call (Expr.Name (Str.ofString "repr") (Pos.mk 551 48 551 52)) [(Expr.Name (Str.ofString "tok") (Pos.mk 551 53 551 56))] [] (Pos.mk 551 48 551 57)) (Pos.mk 551 22 551 57))] [] (Pos.mk 551 16 551 58)) (Pos.mk 551 16 551 58))] [] (Pos.mk 550 12 551 58)), (Stmt.Return (some (Expr.Name (Str.ofString "tok") (Pos.mk 552 19 552 22))) (Pos.mk 552 12 552 22))] [] (Pos.mk 548 8 552 22)), (Stmt.Assign [(Expr.Name (Str.ofString "raw") (Pos.mk 553 8 553 11))] (Expr.Call (Expr.Attribute (Expr.Name (Str.ofString "self") (Pos.mk 553 14 553 18)) (Str.ofString "read_token") (Pos.mk 553 14 553 29)) [] [] (Pos.mk 553 14 553 31)) (Pos.mk 553 8 553 31)), (Stmt.If (Expr.Compare (Expr.Attribute (Expr.Name (Str.ofString "self") (Pos.mk 554 11 554 15)) (Str.ofString "source") (Pos.mk 554 11 554 22)) [CmpOp.IsNot] [(Expr.Constant Const.none 0 (Pos.mk 554 30 554 34))] (Pos.mk 554 11 554 34)) [(Stmt.While (Expr.Compare (Expr.Name (Str.ofString "raw") (Pos.mk 555 18 555 21)) [CmpOp.Eq] [(Expr.Attribute (Expr.Name (Str.ofString "self") (Pos.mk 555 25 555 29)) (Str.ofString "source") (Pos.mk 555 25 555 36))] (Pos.mk 555 18 555 36)) [(Stmt.Assign [(Expr.Name (Str.ofString "spec") (Pos.mk 556 16 556 20))] (Expr.Call (Expr.Attribute (Expr.Name (Str.ofString "self") (Pos.mk 556 23 556 27)) (Str.ofString "sourcehook") (Pos.mk 556 23 556 38)) [(Expr.Call (Expr.Attribute (Expr.Name (Str.ofString "self") (Pos.mk 556 39 556 43)) (Str.ofString "read_token") (Pos.mk 556 39 556 54)) [] [] (Pos.mk 556 39 556 56))] [] (Pos.mk 556 23 556 57)) (Pos.mk 556 16 556 57)), (Stmt.If (Expr.Name (Str.ofString "spec") (Pos.mk 557 19 557 23)) [(Stmt.Assign [(Expr.Tuple [(Expr.Name (Str.ofString "newfile") (Pos.mk 558 20 558 27)), (Expr.Name (Str.ofString "newstream") (Pos.mk 558 29 558 38))] 0 (Pos.mk 558 20 558 38))] (Expr.Name (Str.ofString "spec") (Pos.mk 558 41 558 45)) (Pos.mk 558 20 558 45)), (Stmt.Expr (Expr.Call (Expr.Attribute (Expr.Name (Str.ofString "self") (Pos.mk 559 20 559 24)) (Str.ofString "push_source") (Pos.mk 559 20 559 36)) [(Expr.Name (Str.ofString "newstream") (Pos.mk 559 37 559 46)), (Expr.Name (Str.ofString "newfile") (Pos.mk 559 48 559 55))] [] (Pos.mk 559 20 559 56)) (Pos.mk 559 20 559 56))] [] (Pos.mk 557 16 559 56)), (Stmt.Assign [(Expr.Name (Str.ofString "raw") (Pos.mk 560 16 560 19))] (Expr.Call (Expr.Attribute (Expr.Name (Str.ofString "self") (Pos.mk 560 22 560 26)) (Str.ofString "get_token") (Pos.mk 560 22 560 36)) [] [] (Pos.mk 560 22 560 38)) (Pos.mk 560 16 560 38))] [] (Pos.mk 555 12 560 38))] [] (Pos.mk 554 8 560 38)), (Stmt.While (Expr.Compare (Expr.Name (Str.ofString "raw") (Pos.mk 561 14 561 17)) [CmpOp.Eq] [(Expr.Attribute (Expr.Name (Str.ofString "self") (Pos.mk 561 21 561 25)) (Str.ofString "eof") (Pos.mk 561 21 561 29))] (Pos.mk 561 14 561 29)) [(Stmt.If (Expr.UnaryOp UnaryOp.Not (Expr.Attribute (Expr.Name (Str.ofString "self") (Pos.mk 562 19 562 23)) (Str.ofString "filestack") (Pos.mk 562 19 562 33)) (Pos.mk 562 15 562 33)) [(Stmt.Return (some (Expr.Attribute (Expr.Name (Str.ofString "self") (Pos.mk 563 23 563 27)) (Str.ofString "eof") (Pos.mk 563 23 563 31))) (Pos.mk 563 16 563 31))] [(Stmt.Expr (Expr.Call (Expr.Attribute (Expr.Name (Str.ofString "self") (Pos.mk 565 16 565 20)) (Str.ofString "pop_source") (Pos.mk 565 16 565 31)) [] [] (Pos.mk 565 16 565 33)) (Pos.mk 565 16 565 33)), (Stmt.Assign [(Expr.Name (Str.ofString "raw") (Pos.mk 566 16 566 19))] (Expr.Call (Expr.Attribute (Expr.Name (Str.ofString "self") (Pos.mk 566 22 566 26)) (Str.ofString "get_token") (Pos.mk 566 22 566 36)) [] [] (Pos.mk 566 22 566 38)) (Pos.mk 566 16 566 38))] (Pos.mk 562 12 566 38))] [] (Pos.mk 561 8 566 38)), (Stmt.If (Expr.Compare (Expr.Attribute (Expr.Name (Str.ofString "self") (Pos.mk 567 11 567 15)) (Str.ofString "debug") (Pos.mk 567 11 567 21)) [CmpOp.GtE] [(Expr.Constant (Const.int 1) 0 (Pos.mk 567 25 567 26))] (Pos.mk 567 11 567 26)) [(Stmt.If (Expr.Compare (Expr.Name (Str.ofString "raw") (Pos.mk 568 15 568 18)) [CmpOp.NotEq] [(Expr.Attribute (Expr.Name (Str.ofString "self") (Pos.mk 568 22 568 26)) (Str.ofString "eof") (Pos.mk 568 22 568 30))] (Pos.mk 568 15 568 30)) [(Stmt.Expr (Expr.Call (Expr.Name (Str.ofString "print") (Pos.mk 569 16 569 21)) [(Expr.BinOp (Expr.Constant (Const.str (Str.ofString "shlex: token=")) 0 (Pos.mk 569 22 569 37)) Operator.Add (Expr.Call (Expr.Name (Str.ofString "repr") (Pos.mk 569 40 569 44)) [(Expr.Name (Str.ofString "raw") (Pos.mk 569 45 569 48))] [] (Pos.mk 569 40 569 49)) (Pos.mk 569 22 569 49))] [] (Pos.mk 569 16 569 50)) (Pos.mk 569 16 569 50))] [(Stmt.Expr (Expr.Call (Expr.Name (Str.ofString "print") (Pos.mk 571 16 571 21)) [(Expr.Constant (Const.str (Str.ofString "shlex: token=EOF")) 0 (Pos.mk 571 22 571 40))] [] (Pos.mk 571 16 571 41)) (Pos.mk 571 16 571 41))] (Pos.mk 568 12 571 41))] [] (Pos.mk 567 8 571 41)), (Stmt.Return (some (Expr.Name (Str.ofString "raw") (Pos.mk 572 15 572 18))) (Pos.mk 572 8 572 18))]) (Scope.mk ScopeKind.function [((Str.ofString "self"), NameKind.local), ((Str.ofString "tok"), NameKind.local), ((Str.ofString "raw"), NameKind.local), ((Str.ofString "spec"), NameKind.local), ((Str.ofString "newfile"), NameKind.local), ((Str.ofString "newstream"), NameKind.local), ((Str.ofString "print"), NameKind.globalImplicit), ((Str.ofString "repr"), NameKind.globalImplicit)] false false []) 3 [] Value.none Value.none Value.none (Value.str (Str.ofString "cpy313.shlex") 1115) none (Value.ref 704) Value.none 0)) #[])) ::
  (nat_lit 711, (Obj.mk (Value.type "code") none (Data.fields #[(Value.str (Str.ofString "read_token") 1185), (Value.str (Str.ofString "shlex.read_token") 1186), (Value.str (Str.ofString "/claim/cut.py") 1187), (Value.int 574 0), (Value.int 1 0), (Value.int 0 0), (Value.int 0 0), (Value.int 3 0), (Value.ref 706), (Value.bool true), (Value.int 318 0), (Value.ref 707), Value.none, (Value.ref 708), (Value.ref 709), (Value.ref 710), (Value.int 1193 0), (Value.int 574 0), (Value.str (Str.ofString "/claim/cut.py") 1194)]) #[])) ::
  (nat_lit 712, (Obj.mk (Value.type "function") none (Data.func (FuncData.mk (Str.ofString "read_token") (Str.ofString "shlex.read_token") (Arguments.mk [] [(Arg.mk (Str.ofString "self") none (Pos.mk 574 19 574 23))] none [] [] none []) (FuncBody.stmts [(Stmt.Assign [(Expr.Name (Str.ofString "quoted") (Pos.mk 575 8 575 14))] (Expr.Constant (Const.bool false) 0 (Pos.mk 575 17 575 22)) (Pos.mk 575 8 575 22)), (Stmt.Assign [(Expr.Name (Str.ofString "escapedstate") (Pos.mk 576 8 576 20))] (Expr.Constant (Const.str (Str.ofString " ")) 0 (Pos.mk 576 23 576 26)) (Pos.mk 576 8 576 26)), (Stmt.While (Expr.Constant (Const.bool true) 0 (Pos.mk 577 14 577 18)) [(Stmt.If (Expr.BoolOp BoolOp.And [(Expr.Attribute (Expr.Name (Str.ofString "self") (Pos.mk 578 15 578 19)) (Str.ofString "punctuation_chars") (Pos.mk 578 15 578 37)), (Expr.Attribute (Expr.Name (Str.ofString "self") (Pos.mk 578 42 578 46)) (Str.ofString "_pushback_chars") (Pos.mk 578 42 578 62))] (Pos.mk 578 15 578 62)) [(Stmt.Assign [(Expr.Name (Str.ofString "nextchar") (Pos.mk 579 16 579 24))] (Expr.Call (Expr.Attribute (Expr.Attribute (Expr.Name (Str.ofString "self") (Pos.mk 579 27 579 31)) (Str.ofString "_pushback_chars") (Pos.mk 579 27 579 47)) (Str.ofString "pop") (Pos.mk 579 27 579 51)) [] [] (Pos.mk 579 27 579 53)) (Pos.mk 579 16 579 53))] [(Stmt.Assign [(Expr.Name (Str.ofString "nextchar") (Pos.mk 581 16 581 24))] (Expr.Call (Expr.Attribute (Expr.Attribute (Expr.Name (Str.ofString "self") (Pos.mk 581 27 581 31)) (Str.ofString "instream") (Pos.mk 581 27 581 40)) (Str.ofString "read") (Pos.mk 581 27 581 45)) [(Expr.Constant (Const.int 1) 0 (Pos.mk 581 46 581 47))] [] (Pos.mk 581 27 581 48)) (Pos.mk 581 16 581 48))] (Pos.mk 578 12 581 48)), (Stmt.If (Expr.Compare (Expr.Name (Str.ofString "nextchar") (Pos.mk 582 15 582 23)) [CmpOp.Eq] [(Expr.Constant (Const.str (Str.ofString "\n")) 0 (Pos.mk 582 27 582 31))] (Pos.mk 582 15 582 31)) [(Stmt.AugAssign (Expr.Attribute (Expr.Name (Str.ofString "self") (Pos.mk 583 16 583 20)) (Str.ofString "lineno") (Pos.mk 583 16 583 27)) Operator.Add (Expr.Constant (Const.int 1) 0 (Pos.mk 583 31 583 32)) (Pos.mk 583 16 583 32))] [] (Pos.mk 582 12 583 32)), (Stmt.If (Expr.Compare (Expr.Attribute (Expr.Name (Str.ofString "self") (Pos.mk 584 15 584 19)) (Str.ofString "debug") (Pos.mk 584 15 584 25)) [CmpOp.GtE] [(Expr.Constant (Const.int 3) 0 (Pos.mk 584 29 584 30))] (Pos.mk 584 15 584 30)) [(Stmt.Expr (Expr.Call (Expr.Name (Str.ofString "print") (Pos.mk 585 16 585 21)) [(Expr.JoinedStr [(Expr.Constant (Const.str (Str.ofString "shlex: in state ")) 0 (Pos.mk 585 22 585 62)), (Expr.FormattedValue (Expr.Attribute (Expr.Name (Str.ofString "self") (Pos.mk 585 66 585 70)) (Str.ofString "state") (Pos.mk 585 66 585 76)) 114 none (Pos.mk 585 66 585 76)), (Expr.Constant (Const.str (Str.ofString " I see character: ")) 0 (Pos.mk 585 22 585 62)), (Expr.FormattedValue (Expr.Name (Str.ofString "nextchar") (Pos.mk 585 78 585 86)) 114 none (Pos.mk 585 78 585 86))] (Pos.mk 585 22 585 87))] [] (Pos.mk 585 16 585 88)) (Pos.mk 585 16 585 88))] [] (Pos.mk 584 12 585 88)), (Stmt.If (Expr.Compare (Expr.Attribute (Expr.Name (Str.ofString "self") (Pos.mk 586 15 586 19)) (Str.ofString "state") (Pos.mk 586 15 586 25)) [CmpOp.Is] [(Expr.Constant Const.none 0 (Pos.mk 586 29 586 33))] (Pos.mk 586 15 586 33)) [(Stmt.Assign [(Expr.Attribute (Expr.Name (Str.ofString "self") (Pos.mk 587 16 587 20)) (Str.ofString "token") (Pos.mk 587 16 587 26))] (Expr.Constant (Const.str (Str.ofString "")) 0 (Pos.mk 587 29 587 31)) (Pos.mk 587 16 587 31)), (Stmt.Break (Pos.mk 588 16 588 21))] [(Stmt.If (Expr.Compare (Expr.Attribute (Expr.Name (Str.ofString "self") (Pos.mk 589 17 589 21)) (Str.ofString "state") (Pos.mk 589 17 589 27)) [CmpOp.Eq] [(Expr.Constant (Const.str (Str.ofString " ")) 0 (Pos.mk 589 31 589 34))] (Pos.mk 589 17 589 34)) [(Stmt.If (Expr.UnaryOp UnaryOp.Not (Expr.Name (Str.ofString "nextchar") (Pos.mk 590 23 590 31)) (Pos.mk 590 19 590 31)) [(Stmt.Assign [(Expr.Attribute (Expr.Name (Str.ofString "self") (Pos.mk 591 20 591 24)) (Str.ofString "state") (Pos.mk 591 20 591 30))] (Expr.Constant Const.none 0 (Pos.mk 591 33 591 37)) (Pos.mk 591 20 591 37)), (Stmt.Break (Pos.mk 592 20 592 25))] [(Stmt.If (Expr.Compare (Expr.Name (Str.ofString "nextchar") (Pos.mk 593 21 593 29)) [CmpOp.In] [(Expr.Attribute (Expr.Name (Str.ofString "self") (Pos.mk 593 33 593 37)) (Str.ofString "whitespace") (Pos.mk 593 33 593 48))] (Pos.mk 593 21 593 48)) [(Stmt.If (Expr.Compare (Expr.Attribute (Expr.Name (Str.ofString "self") (Pos.mk 594 23 594 27)) (Str.ofString "debug") (Pos.mk 594 23 594 33)) [CmpOp.GtE] [(Expr.Constant (Const.int 2) 0 (Pos.mk 594 37 594 38))] (Pos.mk 594 23 594 38)) [(Stmt.Expr (Expr.Call (Expr.Name (Str.ofString "print") (Pos.mk 595 24 595 29)) [(Expr.Constant (Const.str (Str.ofString "shlex: I see whitespace in whitespace state")) 0 (Pos.mk 595 30 595 75))] [] (Pos.mk 595 24 595 76)) (Pos.mk 595 24 595 76))] [] (Pos.mk 594 20 595 76)), (Stmt.If (Expr.BoolOp BoolOp.Or [(Expr.Attribute (Expr.Name (Str.ofString "self") (Pos.mk 596 23 596 27)) (Str.ofString "token") (Pos.mk 596 23 596 33)), (Expr.BoolOp BoolOp.And [(Expr.Attribute (Expr.Name (Str.ofString "self") (Pos.mk 596 38 596 42)) (Str.ofString "posix") (Pos.mk 596 38 596 48)), (Expr.Name (Str.ofString "quoted") (Pos.mk 596 53 596 59))] (Pos.mk 596 38 596 59))] (Pos.mk 596 23 596 60)) [(Stmt.Break (Pos.mk 597 24 597 29))] [(Stmt.Continue (Pos.mk 599 24 599 32))] (Pos.mk 596 20 599 32))] [(Stmt.If (Expr.Compare (Expr.Name (Str.ofString "nextchar") (Pos.mk 600 21 600 29)) [CmpOp.In] [(Expr.Attribute (Expr.Name (Str.ofString "self") (Pos.mk 600 33 600 37)) (Str.ofString "commenters") (Pos.mk 600 33 600 48))] (Pos.mk 600 21 600 48)) [(Stmt.Expr (Expr.Call (Expr.Attribute (Expr.Attribute (Expr.Name (Str.ofString "self") (Pos.mk 601 20 601 24)) (Str.ofString "instream") (Pos.mk 601 20 601 33)) (Str.ofString "readline") (Pos.mk 601 20 601 42)) [] [] (Pos.mk 601 20 601 44)) (Pos.mk 601 20 601 44)), (Stmt.AugAssign (Expr.Attribute (Expr.Name (Str.ofString "self") (Pos.mk 602 20 602 24)) (Str.ofString "lineno") (Pos.mk 602 20 602 31)) Operator.Add (Expr.Constant (Const.int 1) 0 (Pos.mk 602 35 602 36)) (Pos.mk 602 20 602 36))] [(Stmt.If (Expr.BoolOp BoolOp.And [(Expr.Attribute (Expr.Name (Str.ofString "self") (Pos.mk 603 21 603 25)) (Str.ofString "posix") (Pos.mk 603 21 603 31)), (Expr.Compare (Expr.Name (Str.ofString "nextchar") (Pos.mk 603 36 603 44)) [CmpOp.In] [(Expr.Attribute (Expr.Name (Str.ofString "self") (Pos.mk 603 48 603 52)) (Str.ofString "escape") (Pos.mk 603 48 603 59))] (Pos.mk 603 36 603 59))] (Pos.mk 603 21 603 59)) [(Stmt.Assign [(Expr.Name (Str.ofString "escapedstate") (Pos.mk 604 20 604 32))] (Expr.Constant (Const.str (Str.ofString "a")) 0 (Pos.mk 604 35 604 38)) (Pos.mk 604 20 604 38)), (Stmt.Assign [(Expr.Attribute (Expr.Name (Str.ofString "self") (Pos.mk 605 20 605 24)) (Str.ofString "state") (Pos.mk 605 20 605 30))] (Expr.Name (Str.ofString "nextchar") (Pos.mk 605 33 605 41)) (Pos.mk 605 20 605 41))] [(Stmt.If (Expr.Compare (Expr.Name (Str.ofString "nextchar") (Pos.mk 606 21 606 29)) [CmpOp.In] [(Expr.Attribute (Expr.Name (Str.ofString "self") (Pos.mk 606 33 606 37)) (Str.ofString "wordchars") (Pos.mk 606 33 606 47))] (Pos.mk 606 21 606 47)) [(Stmt.Assign [(Expr.Attribute (Expr.Name (Str.ofString "self") (Pos.mk 607 20 607 24)) (Str.ofString "token") (Pos.mk 607 20 607 30))] (Expr.Name (Str.ofString "nextchar") (Pos.mk 607 33 607 41)) (Pos.mk 607 20 607 41)), (Stmt.Assign [(Expr.Attribute (Expr.Name (Str.ofString "self") (Pos.mk 608 20 608 24)) (Str.ofString "state") (Pos.mk 608 20 608 30))] (Expr.Constant (Const.str (Str.ofString "a")) 0 (Pos.mk 608 33 608 36)) (Pos.mk 608 20 608 36))] [(Stmt.If (Expr.Compare (Expr.Name (Str.ofString "nextchar") (Pos.mk 609 21 609 29)) [CmpOp.In] [(Expr.Attribute (Expr.Name (Str.ofString "self") (Pos.mk 609 33 609 37)) (Str.ofString "punctuation_chars") (Pos.mk 609 33 609 55))] (Pos.mk 609 21 609 55)) [(Stmt.Assign [(Expr.Attribute (Expr.Name (Str.ofString "self") (Pos.mk 610 20 610 24)) (Str.ofString "token") (Pos.mk 610 20 610 30))] (Expr.Name (Str.ofString "nextchar") (Pos.mk 610 33 610 41)) (Pos.mk 610 20 610 41)), (Stmt.Assign [(Expr.Attribute (Expr.Name (Str.ofString "self") (Pos.mk 611 20 611 24)) (Str.ofString "state") (Pos.mk 611 20 611 30))] (Expr.Constant (Const.str (Str.ofString "c")) 0 (Pos.mk 611 33 611 36)) (Pos.mk 611 20 611 36))] [(Stmt.If (Expr.Compare (Expr.Name (Str.ofString "nextchar") (Pos.mk 612 21 612 29)) [CmpOp.In] [(Expr.Attribute (Expr.Name (Str.ofString "self") (Pos.mk 612 33 612 37)) (Str.ofString "quotes") (Pos.mk 612 33 612 44))] (Pos.mk 612 21 612 44)) [(Stmt.If (Expr.UnaryOp UnaryOp.Not (Expr.Attribute (Expr.Name (Str.ofString "self") (Pos.mk 613 27 613 31)) (Str.ofString "posix") (Pos.mk 613 27 613 37)) (Pos.mk 613 23 613 37)) [(Stmt.Assign [(Expr.Attribute (Expr.Name (Str.ofString "self") (Pos.mk 614 24 614 28)) (Str.ofString "token") (Pos.mk 614 24 614 34))] (Expr.Name (Str.ofString "nextchar") (Pos.mk 614 37 614 45)) (Pos.mk 614 24 614 45))] [] (Pos.mk 613 20 614 45)), (Stmt.Assign [(Expr.Attribute (Expr.Name (Str.ofString "self") (Pos.mk 615 20 615 24)) (Str.ofString "state") (Pos.mk 615 20 615 30))] (Expr.Name (Str.ofString "nextchar") (Pos.mk 615 33 615 41)) (Pos.mk 615 20 615 41))] [(Stmt.If (Expr.Attribute (Expr.Name (Str.ofString "self") (Pos.mk 616 21 616 25)) (Str.ofString "whitespace_split") (Pos.mk 616 21 616 42)) [(Stmt.Assign [(Expr.Attribute (Expr.Name (Str.ofString "self") (Pos.mk 617 20 617 24)) (Str.ofString "token") (Pos.mk 617 20 617 30))] (Expr.Name (Str.ofString "nextchar") (Pos.mk 617 33 617 41)) (Pos.mk 617 20 617 41)), (Stmt.Assign [(Expr.Attribute (Expr.Name (Str.ofString "self") (Pos.mk 618 20 618 24)) (Str.ofString "state") (Pos.mk 618 20 618 30))] (Expr.Constant (Const.str (Str.ofString "a")) 0 (Pos.mk 618 33 618 36)) (Pos.mk 618 20 618 36))] [(Stmt.Assign [(Expr.Attribute (Expr.Name (Str.ofString "self") (Pos.mk 620 20 620 24)) (Str.ofString "token") (Pos.mk 620 20 620 30))] (Expr.Name (Str.ofString "nextchar") (Pos.mk 620 33 620 41)) (Pos.mk 620 20 620 41)), (Stmt.If (Expr.BoolOp BoolOp.Or [(Expr.Attribute (Expr.Name (Str.ofString "self") (Pos.mk 621 23 621 27)) (Str.ofString "token") (Pos.mk 621 23 621 33)), (Expr.BoolOp BoolOp.And [(Expr.Attribute (Expr.Name (Str.ofString "self") (Pos.mk 621 38 621 42)) (Str.ofString "posix") (Pos.mk 621 38 621 48)), (Expr.Name (Str.ofString "quoted") (Pos.mk 621 53 621 59))] (Pos.mk 621 38 621 59))] (Pos.mk 621 23 621 60)) [(Stmt.Break (Pos.mk 622 24 622 29))] [(Stmt.Continue (Pos.mk 624 24 624 32))] (Pos.mk 621 20 624 32))] (Pos.mk 616 16 624 32))] (Pos.mk 612 16 624 32))] (Pos.mk 609 16 624 32))] (Pos.mk 606 16 624 32))] (Pos.mk 603 16 624 32))] (Pos.mk 600 16 624 32))] (Pos.mk 593 16 624 32))] (Pos.mk 590 16 624 32))] [(Stmt.If (Expr.Compare (Expr.Attribute (Expr.Name (Str.ofString "self") (Pos.mk 625 17 625 21)) (Str.ofString "state") (Pos.mk 625 17 625 27)) [CmpOp.In] [(Expr.Attribute (Expr.Name (Str.ofString "self") (Pos.mk 625 31 625 35)) (Str.ofString "quotes") (Pos.mk 625 31 625 42))] (Pos.mk 625 17 625 42)) [(Stmt.Assign [(Expr.Name (Str.ofString "quoted") (Pos.mk 626 16 626 22))] (Expr.Constant (Const.bool true) 0 (Pos.mk 626 25 626 29)) (Pos.mk 626 16 626 29)), (Stmt.If (Expr.UnaryOp UnaryOp.Not (Expr.Name (Str.ofString "nextchar") (Pos.mk 627 23 627 31)) (Pos.mk 627 19 627 31)) [(Stmt.If (Expr.Compare (Expr.Attribute (Expr.Name (Str.ofString "self") (Pos.mk 628 23 628 27)) (Str.ofString "debug") (Pos.mk 628 23 628 33)) [CmpOp.GtE] [(Expr.Constant (Const.int 2) 0 (Pos.mk 628 37 628 38))] (Pos.mk 628 23 628 38)) [(Stmt.Expr (Expr.Call (Expr.Name (Str.ofString "print") (Pos.mk 629 24 629 29)) [(Expr.Constant (Const.str (Str.ofString "shlex: I see EOF in quotes state")) 0 (Pos.mk 629 30 629 64))] [] (Pos.mk 629 24 629 65)) (Pos.mk 629 24 629 65))] [] (Pos.mk 628 20 629 65)), (Stmt.Raise (some (Expr.Call (Expr.Name (Str.ofString "ValueError") (Pos.mk 630 26 630 36)) [(Expr.Constant (Const.str (Str.ofString "No closing quotation")) 0 (Pos.mk 630 37 630 59))] [] (Pos.mk 630 26 630 60))) none (Pos.mk 630 20 630 60))] [] (Pos.mk 627 16 630 60)), (Stmt.If (Expr.Compare (Expr.Name (Str.ofString "nextchar") (Pos.mk 631 19 631 27)) [CmpOp.Eq] [(Expr.Attribute (Expr.Name (Str.ofString "self") (Pos.mk 631 31 631 35)) (Str.ofString "state") (Pos.mk 631 31 631 41))] (Pos.mk 631 19 631 41)) [(Stmt.If (Expr.UnaryOp UnaryOp.Not (Expr.Attribute (Expr.Name (Str.ofString "self") (Pos.mk 632 27 632 31)) (Str.ofString "posix") (Pos.mk 632 27 632 37)) (Pos.mk 632 23 632 37)) [(Stmt.AugAssign (Expr.Attribute (Expr.Name (Str.ofString "self") (Pos.mk 633 24 633 28)) (Str.ofString "token") (Pos.mk 633 24 633 34)) Operator.Add (Expr.Name (Str.ofString "nextchar") (Pos.mk 633 38 633 46)) (Pos.mk 633 24 633 46)), (Stmt.Assign [(Expr.Attribute (Expr.Name (Str.ofString "self") (Pos.mk 634 24 634 28)) (Str.ofString "state") (Pos.mk 634 24 634 34))] (Expr.Constant (Const.str (Str.ofString " ")) 0 (Pos.mk 634 37 634 40)) (Pos.mk 634 24 634 40)), (Stmt.Break (Pos.mk 635 24 635 29))] [(Stmt.Assign [(Expr.Attribute (Expr.Name (Str.ofString "self") (Pos.mk 637 24 637 28)) (Str.ofString "state") (Pos.mk 637 24 637 34))] (Expr.Constant (Const.str (Str.ofString "a")) 0 (Pos.mk 637 37 637 40)) (Pos.mk 637 24 637 40))] (Pos.mk 632 20 637 40))] [(Stmt.If (Expr.BoolOp BoolOp.And [(Expr.Attribute (Expr.Name (Str.ofString "self") (Pos.mk 638 21 638 25)) (Str.ofString "posix") (Pos.mk 638 21 638 31)), (Expr.Compare (Expr.Name (Str.ofString "nextchar") (Pos.mk 638 36 638 44)) [CmpOp.In] [(Expr.Attribute (Expr.Name (Str.ofString "self") (Pos.mk 638 48 638 52)) (Str.ofString "escape") (Pos.mk 638 48 638 59))] (Pos.mk 638 36 638 59)), (Expr.Compare (Expr.Attribute (Expr.Name (Str.ofString "self") (Pos.mk 638 65 638 69)) (Str.ofString "state") (Pos.mk 638 65 638 75)) [CmpOp.In] [(Expr.Attribute (Expr.Name (Str.ofString "self") (Pos.mk 638 79 638 83)) (Str.ofString "escapedquotes") (Pos.mk 638 79 638 97))] (Pos.mk 638 65 638 97))] (Pos.mk 638 21 638 98)) [(Stmt.Assign [(Expr.Name (Str.ofString "escapedstate") (Pos.mk 639 20 639 32))] (Expr.Attribute (Expr.Name (Str.ofString "self") (Pos.mk 639 35 639 39)) (Str.ofString "state") (Pos.mk 639 35 639 45)) (Pos.mk 639 20 639 45)), (Stmt.Assign [(Expr.Attribute (Expr.Name (Str.ofString "self") (Pos.mk 640 20 640 24)) (Str.ofString "state") (Pos.mk 640 20 640 30))] (Expr.Name (Str.ofString "nextchar") (Pos.mk 640 33 640 41)) (Pos.mk 640 20 640 41))] [(Stmt.AugAssign (Expr.Attribute (Expr.Name (Str.ofString "self") (Pos.mk 642 20 642 24)) (Str.ofString "token") (Pos.mk 642 20 642 30)) Operator.Add (Expr.Name (Str.ofString "nextchar") (Pos.mk 642 34 642 42)) (Pos.mk 642 20 642 42))] (Pos.mk 638 16 642 42))] (Pos.mk 631 16 642 42))] [(Stmt.If (Expr.Compare (Expr.Attribute (Expr.Name (Str.ofString "self") (Pos.mk 643 17 643 21)) (Str.ofString "state") (Pos.mk 643 17 643 27)) [CmpOp.In] [(Expr.Attribute (Expr.Name (Str.ofString "self") (Pos.mk 643 31 643 35)) (Str.ofString "escape") (Pos.mk 643 31 643 42))] (Pos.mk 643 17 643 42)) [(Stmt.If (Expr.UnaryOp UnaryOp.Not (Expr.Name (Str.ofString "nextchar") (Pos.mk 644 23 644 31)) (Pos.mk 644 19 644 31)) [(Stmt.If (Expr.Compare (Expr.Attribute (Expr.Name (Str.ofString "self") (Pos.mk 645 23 645 27)) (Str.ofString "debug") (Pos.mk 645 23 645 33)) [CmpOp.GtE] [(Expr.Constant (Const.int 2) 0 (Pos.mk 645 37 645 38))] (Pos.mk 645 23 645 38)) [(Stmt.Expr (Expr.Call (Expr.Name (Str.ofString "print") (Pos.mk 646 24 646 29)) [(Expr.Constant (Const.str (Str.ofString "shlex: I see EOF in escape state")) 0 (Pos.mk 646 30 646 64))] [] (Pos.mk 646 24 646 65)) (Pos.mk 646 24 646 65))] [] (Pos.mk 645 20 646 65)), (Stmt.Raise (some (Expr.Call (Expr.Name (Str.ofString "ValueError") (Pos.mk 647 26 647 36)) [(Expr.Constant (Const.str (Str.ofString "No escaped character")) 0 (Pos.mk 647 37 647 59))] [] (Pos.mk 647 26 647 60))) none (Pos.mk 647 20 647 60))] [] (Pos.mk 644 16 647 60)), (Stmt.If (Expr.BoolOp BoolOp.And [(Expr.Compare (Expr.Name (Str.ofString "escapedstate") (Pos.mk 648 19 648 31)) [CmpOp.In] [(Expr.Attribute (Expr.Name (Str.ofString "self") (Pos.mk 648 35 648 39)) (Str.ofString "quotes") (Pos.mk 648 35 648 46))] (Pos.mk 648 19 648 46)), (Expr.Compare (Expr.Name (Str.ofString "nextchar") (Pos.mk 648 51 648 59)) [CmpOp.NotEq] [(Expr.Attribute (Expr.Name (Str.ofString "self") (Pos.mk 648 63 648 67)) (Str.ofString "state") (Pos.mk 648 63 648 73))] (Pos.mk 648 51 648 73)), (Expr.Compare (Expr.Name (Str.ofString "nextchar") (Pos.mk 648 79 648 87)) [CmpOp.NotEq] [(Expr.Name (Str.ofString "escapedstate") (Pos.mk 648 91 648 103))] (Pos.mk 648 79 648 103))] (Pos.mk 648 19 648 104)) [(Stmt.AugAssign (Expr.Attribute (Expr.Name (Str.ofString "self") (Pos.mk 649 20 649 24)) (Str.ofString "token") (Pos.mk 649 20 649 30)) Operator.Add (Expr.Attribute (Expr.Name (Str.ofString "self") (Pos.mk 649 34 649 38)) (Str.ofString "state") (Pos.mk 649 34 649 44)) (Pos.mk 649 20 649 44))] [] (Pos.mk 648 16 649 44)), (Stmt.AugAssign (Expr.Attribute (Expr.Name (Str.ofString "self") (Pos.mk 650 16 650 20)) (Str.ofString "token") (Pos.mk 650 16 650 26)) Operator.Add (Expr.Name (Str.ofString "nextchar") (Pos.mk 650 30 650 38)) (Pos.mk 650 16 650 38)), (Stmt.Assign [(Expr.Attribute (Expr.Name (Str.ofString "self") (Pos.mk 651 16 651 20)) (Str.ofString "state") (Pos.mk 651 16 651 26))] (Expr.Name (Str.ofString "escapedstate") (Pos.mk 651 29 651 41)) (Pos.mk 651 16 651 41))] [(Stmt.If (Expr.Compare (Expr.Attribute (Expr.Name (Str.ofString "self") (Pos.mk 652 17 652 21)) (Str.ofString "state") (Pos.mk 652 17 652 27)) [CmpOp.In] [(Expr.Tuple [(Expr.Constant (Const.str (Str.ofString "a")) 0 (Pos.mk 652 32 652 35)), (Expr.Constant (Const.str (Str.ofString "c")) 0 (Pos.mk 652 37 652 40))] 0 (Pos.mk 652 31 652 41))] (Pos.mk 652 17 652 41)) [(Stmt.If (Expr.UnaryOp UnaryOp.Not (Expr.Name (Str.ofString "nextchar") (Pos.mk 653 23 653 31)) (Pos.mk 653 19 653 31)) [(Stmt.Assign [(Expr.Attribute (Expr.Name (Str.ofString "self") (Pos.mk 654 20 654 24)) (Str.ofString "state") (Pos.mk 654 20 654 30))] (Expr.Constant Const.none 0 (Pos.mk 654 33 654 37)) (Pos.mk 654 20 654 37)), (Stmt.Break (Pos.mk 655 20 655 25))] [(Stmt.If (Expr.Compare (Expr.Name (Str.ofString "nextchar") (Pos.mk 656 21 656 29)) [CmpOp.In] [(Expr.Attribute (Expr.Name (Str.ofString "self") (Pos.mk 656 33 656 37)) (Str.ofString "whitespace") (Pos.mk 656 33 656 48))] (Pos.mk 656 21 656 48)) [(Stmt.If (Expr.Compare (Expr.Attribute (Expr.Name (Str.ofString "self") (Pos.mk 657 23 657 27)) (Str.ofString "debug") (Pos.mk 657 23 657 33)) [CmpOp.GtE] [(Expr.Constant (Const.int 2) 0 (Pos.mk 657 37 657 38))] (Pos.mk 657 23 657 38)) [(Stmt.Expr (Expr.Call (Expr.Name (Str.ofString "print") (Pos.mk 658 24 658 29)) [(Expr.Constant (Const.str (Str.ofString "shlex: I see whitespace in word state")) 0 (Pos.mk 658 30 658 69))] [] (Pos.mk 658 24 658 70)) (Pos.mk 658 24 658 70))] [] (Pos.mk 657 20 658 70)), (Stmt.Assign [(Expr.Attribute (Expr.Name (Str.ofString "self") (Pos.mk 659 20 659 24)) (Str.ofString "state") (Pos.mk 659 20 659 30))] (Expr.Constant (Const.str (Str.ofString " ")) 0 (Pos.mk 659 33 659 36)) (Pos.mk 659 20 659 36)), (Stmt.If (Expr.BoolOp BoolOp.Or [(Expr.Attribute (Expr.Name (Str.ofString "self") (Pos.mk 660 23 660 27)) (Str.ofString "token") (Pos.mk 660 23 660 33)), (Expr.BoolOp BoolOp.And [(Expr.Attribute (Expr.Name (Str.ofString "self") (Pos.mk 660 38 660 42)) (Str.ofString "posix") (Pos.mk 660 38 660 48)), (Expr.Name (Str.ofString "quoted") (Pos.mk 660 53 660 59))] (Pos.mk 660 38 660 59))] (Pos.mk 660 23 660 60)) [(Stmt.Break (Pos.mk 661 24 661 29))] [(Stmt.Continue (Pos.mk 663 24 663 32))] (Pos.mk 660 20 663 32))] [(Stmt.If (Expr.Compare (Expr.Name (Str.ofString "nextchar") (Pos.mk 664 21 664 29)) [CmpOp.In] [(Expr.Attribute (Expr.Name (Str.ofString "self") (Pos.mk 664 33 664 37)) (Str.ofString "commenters") (Pos.mk 664 33 664 48))] (Pos.mk 664 21 664 48)) [(Stmt.Expr (Expr.Call (Expr.Attribute (Expr.Attribute (Expr.Name (Str.ofString "self") (Pos.mk 665 20 665 24)) (Str.ofString "instream") (Pos.mk 665 20 665 33)) (Str.ofString "readline") (Pos.mk 665 20 665 42)) [] [] (Pos.mk 665 20 665 44)) (Pos.mk 665 20 665 44)), (Stmt.AugAssign (Expr.Attribute (Expr.Name (Str.ofString "self") (Pos.mk 666 20 666 24)) (Str.ofString "lineno") (Pos.mk 666 20 666 31)) Operator.Add (Expr.Constant (Const.int 1) 0 (Pos.mk 666 35 666 36)) (Pos.mk 666 20 666 36)), (Stmt.If (Expr.Attribute (Expr.Name (Str.ofString "self") (Pos.mk 667 23 667 27)) (Str.ofString "posix") (Pos.mk 667 23 667 33)) [(Stmt.Assign [(Expr.Attribute (Expr.Name (Str.ofString "self") (Pos.mk 668 24 668 28)) (Str.ofString "state") (Pos.mk 668 24 668 34))] (Expr.Constant (Const.str (Str.ofString " ")) 0 (Pos.mk 668 37 668 40)) (Pos.mk 668 24 668 40)), (Stmt.If (Expr.BoolOp BoolOp.Or [(Expr.Attribute (Expr.Name (Str.ofString "self") (Pos.mk 669 27 669 31)) (Str.ofString "token") (Pos.mk 669 27 669 37)), (Expr.BoolOp BoolOp.And [(Expr.Attribute (Expr.Name (Str.ofString "self") (Pos.mk 669 42 669 46)) (Str.ofString "posix") (Pos.mk 669 42 669 52)), (Expr.Name (Str.ofString "quoted") (Pos.mk 669 57 669 63))] (Pos.mk 669 42 669 63))] (Pos.mk 669 27 669 64)) [(Stmt.Break (Pos.mk 670 28 670 33))] [(Stmt.Continue (Pos.mk 672 28 672 36))] (Pos.mk 669 24 672 36))] [] (Pos.mk 667 20 672 36))] [(Stmt.If (Expr.Compare (Expr.Attribute (Expr.Name (Str.ofString "self") (Pos.mk 673 21 673 25)) (Str.ofString "state") (Pos.mk 673 21 673 31)) [CmpOp.Eq] [(Expr.Constant (Const.str (Str.ofString "c")) 0 (Pos.mk 673 35 673 38))] (Pos.mk 673 21 673 38)) [(Stmt.If (Expr.Compare (Expr.Name (Str.ofString "nextchar") (Pos.mk 674 23 674 31)) [CmpOp.In] [(Expr.Attribute (Expr.Name (Str.ofString "self") (Pos.mk 674 35 674 39)) (Str.ofString "punctuation_chars") (Pos.mk 674 35 674 57))] (Pos.mk 674 23 674 57)) [(Stmt.AugAssign (Expr.Attribute (Expr.Name (Str.ofString "self") (Pos.mk 675 24 675 28)) (Str.ofString "token") (Pos.mk 675 24 675 34)) Operator.Add (Expr.Name (Str.ofString "nextchar") (Pos.mk 675 38 675 46)) (Pos.mk 675 24 675 46))] [(Stmt.If (Expr.Compare (Expr.Name (Str.ofString "nextchar") (Pos.mk 677 27 677 35)) [CmpOp.NotIn] [(Expr.Attribute (Expr.Name (Str.ofString "self") (Pos.mk 677 43 677 47)) (Str.ofString "whitespace") (Pos.mk 677 43 677 58))] (Pos.mk 677 27 677 58)) [(Stmt.Expr (Expr.Call (Expr.Attribute (Expr.Attribute (Expr.Name (Str.ofString "self") (Pos.mk 678 28 678 32)) (Str.ofString "_pushback_chars") (Pos.mk 678 28 678 48)) (Str.ofString "append") (Pos.mk 678 28 678 55)) [(Expr.Name (Str.ofString "nextchar") (Pos.mk 678 56 678 64))] [] (Pos.mk 678 28 678 65)) (Pos.mk 678 28 678 65))] [] (Pos.mk 677 24 678 65)), (Stmt.Assign [(Expr.Attribute (Expr.Name (Str.ofString "self") (Pos.mk 679 24 679 28)) (Str.ofString "state") (Pos.mk 679 24 679 34))] (Expr.Constant (Const.str (Str.ofString " ")) 0 (Pos.mk 679 37 679 40)) (Pos.mk 679 24 679 40)), (Stmt.Break (Pos.mk 680 24 680 29))] (Pos.mk 674 20 680 29))] [(Stmt.If (Expr.BoolOp BoolOp.And [(Expr.Attribute (Expr.Name (Str.ofString "self") (Pos.mk 681 21 681 25)) (Str.ofString "posix") (Pos.mk 681 21 681 31)), (Expr.Compare (Expr.Name (Str.ofString "nextchar") (Pos.mk 681 36 681 44)) [CmpOp.In] [(Expr.Attribute (Expr.Name (Str.ofString "self") (Pos.mk 681 48 681 52)) (Str.ofString "quotes") (Pos.mk 681 48 681 59))] (Pos.mk 681 36 681 59))] (Pos.mk 681 21 681 59)) [(Stmt.Assign [(Expr.Attribute (Expr.Name (Str.ofString "self") (Pos.mk 682 20 682 24)) (Str.ofString "state") (Pos.mk 682 20 682 30))] (Expr.Name (Str.ofString "nextchar") (Pos.mk 682 33 682 41)) (Pos.mk 682 20 682 41))] [(Stmt.If (Expr.BoolOp BoolOp.And [(Expr.Attribute (Expr.Name (Str.ofString "self") (Pos.mk 683 21 683 25)) (Str.ofString "posix") (Pos.mk 683 21 683 31)), (Expr.Compare (Expr.Name (Str.ofString "nextchar") (Pos.mk 683 36 683 44)) [CmpOp.In] [(Expr.Attribute (Expr.Name (Str.ofString "self") (Pos.mk 683 48 683 52)) (Str.ofString "escape") (Pos.mk 683 48 683 59))] (Pos.mk 683 36 683 59))] (Pos.mk 683 21 683 59)) [(Stmt.Assign [(Expr.Name (Str.ofString "escapedstate") (Pos.mk 684 20 684 32))] (Expr.Constant (Const.str (Str.ofString "a")) 0 (Pos.mk 684 35 684 38)) (Pos.mk 684 20 684 38)), (Stmt.Assign [(Expr.Attribute (Expr.Name (Str.ofString "self") (Pos.mk 685 20 685 24)) (Str.ofString "state") (Pos.mk 685 20 685 30))] (Expr.Name (Str.ofString "nextchar") (Pos.mk 685 33 685 41)) (Pos.mk 685 20 685 41))] [(Stmt.If (Expr.BoolOp BoolOp.Or [(Expr.Compare (Expr.Name (Str.ofString "nextchar") (Pos.mk 686 21 686 29)) [CmpOp.In] [(Expr.Attribute (Expr.Name (Str.ofString "self") (Pos.mk 686 33 686 37)) (Str.ofString "wordchars") (Pos.mk 686 33 686 47))] (Pos.mk 686 21 686 47)), (Expr.Compare (Expr.Name (Str.ofString "nextchar") (Pos.mk 686 51 686 59)) [CmpOp.In] [(Expr.Attribute (Expr.Name (Str.ofString "self") (Pos.mk 686 63 686 67)) (Str.ofString "quotes") (Pos.mk 686 63 686 74))] (Pos.mk 686 51 686 74)), (Expr.BoolOp BoolOp.And [(Expr.Attribute (Expr.Name (Str.ofString "self") (Pos.mk 686 79 686 83)) (Str.ofString "whitespace_split") (Pos.mk 686 79 686 100)), (Expr.Compare (Expr.Name (Str.ofString "nextchar") (Pos.mk 686 105 686 113)) [CmpOp.NotIn] [(Expr.Attribute (Expr.Name (Str.ofString "self") (Pos.mk 686 121 686 125)) (Str.ofString "punctuation_chars") (Pos.mk 686 121 686 143))] (Pos.mk 686 105 686 143))] (Pos.mk 686 79 686 143))] (Pos.mk 686 21 686 144)) [(Stmt.AugAssign (Expr.Attribute (Expr.Name (Str.ofString "self") (Pos.mk 687 20 687 24)) (Str.ofString "token") (Pos.mk 687 20 687 30)) Operator.Add (Expr.Name (Str.ofString "nextchar") (Pos.mk 687 34 687 42)) (Pos.mk 687 20 687 42))] [(Stmt.If (Expr.Attribute (Expr.Name (Str.ofString "self") (Pos.mk 689 23 689 27)) (Str.ofString "punctuation_chars") (Pos.mk 689 23 689 45)) [(Stmt.Expr (Expr.Call (Expr.Attribute (Expr.Attribute (Expr.Name (Str.ofString "self") (Pos.mk 690 24 690 28)) (Str.ofString "_pushback_chars") (Pos.mk 690 24 690 44)) (Str.ofString "append") (Pos.mk 690 24 690 51)) [(Expr.Name (Str.ofString "nextchar") (Pos.mk 690 52 690 60))] [] (Pos.mk 690 24 690 61)) (Pos.mk 690 24 690 61))] [(Stmt.Expr (Expr.Call (Expr.Attribute (Expr.Attribute (Expr.Name (Str.ofString "self") (Pos.mk 692 24 692 28)) (Str.ofString "pushback") (Pos.mk 692 24 692 37)) (Str.ofString "appendleft") (Pos.mk 692 24 692 48)) [(Expr.Name (Str.ofString "nextchar") (Pos.mk 692 49 692 57))] [] (Pos.mk 692 24 692 58)) (Pos.mk 692 24 692 58))] (Pos.mk 689 20 692 58)), (Stmt.If (Expr.Compare (Expr.Attribute (Expr.Name (Str.ofString "self") (Pos.mk 693 23 693 27)) (Str.ofString "debug") (Pos.mk 693 23 693 33)) [CmpOp.GtE] [(Expr.Constant (Const.int 2) 0 (Pos.mk 693 37 693 38))] (Pos.mk 693 23 693 38)) [(Stmt.Expr (Expr.Call (Expr.Name (Str.ofString "print") (Pos.mk 694 24 694 29)) [(Expr.Constant (Const.str (Str.ofString "shlex: I see punctuation in word state")) 0 (Pos.mk 694 30 694 70))] [] (Pos.mk 694 24 694 71)) (Pos.mk 694 24 694 71))] [] (Pos.mk 693 20 694 71)), (Stmt.Assign [(Expr.Attribute (Expr.Name (Str.ofString "self") (Pos.mk 695 20 695 24)) (Str.ofString "state") (Pos.mk 695 20 695 30))] (Expr.Constant (Const.str (Str.ofString " ")) 0 (Pos.mk 695 33 695 36)) (Pos.mk 695 20 695 36)), (Stmt.If (Expr.BoolOp BoolOp.Or [(Expr.Attribute (Expr.Name (Str.ofString "self") (Pos.mk 696 23 696 27)) (Str.ofString "token") (Pos.mk 696 23 696 33)), (Expr.BoolOp BoolOp.And [(Expr.Attribute (Expr.Name (Str.ofString "self") (Pos.mk 696 38 696 42)) (Str.ofString "posix") (Pos.mk 696 38 696 48)), (Expr.Name (Str.ofString "quoted") (Pos.mk 696 53 696 59))] (Pos.mk 696 38 696 59))] (Pos.mk 696 23 696 60)) [(Stmt.Break (Pos.mk 697 24 697 29))] [(Stmt.Continue (Pos.mk 699 24 699 32))] (Pos.mk 696 20 699 32))] (Pos.mk 686 16 699 32))] (Pos.mk 683 16 699 32))] (Pos.mk 681 16 699 32))] (Pos.mk 673 16 699 32))] (Pos.mk 664 16 699 32))] (Pos.mk 656 16 699 32))] (Pos.mk 653 16 699 32))] [] (Pos.mk 652 12 699 32))] (Pos.mk 643 12 699 32))] (Pos.mk 625 12 699 32))] (Pos.mk 589 12 699 32))] (Pos.mk 586 12 699 32))] [] (Pos.mk 577 8 699 32)), (Stmt.Assign [(Expr.Name (Str.ofString "result") (Pos.mk 700 8 700 14))] (Expr.Attribute (Expr.Name (Str.ofString "self") (Pos.mk 700 17 700 21)) (Str.ofString "token") (Pos.mk 700 17 700 27)) (Pos.mk 700 8 700 27)), (Stmt.Assign [(Expr.Attribute (Expr.Name (Str.ofString "self") (Pos.mk 701 8 701 12)) (Str.ofString "token") (Pos.mk 701 8 701 18))] (Expr.Constant (Const.str (Str.ofString "")) 0 (Pos.mk 701 21 701 23)) (Pos.mk 701 8 701 23)), (Stmt.If (Expr.BoolOp BoolOp.And [(Expr.Attribute (Expr.Name (Str.ofString "self") (Pos.mk 702 11 702 15)) (Str.ofString "posix") (Pos.mk 702 11 702 21)), (Expr.UnaryOp UnaryOp.Not (Expr.Name (Str.ofString "quoted") (Pos.mk 702 31 702 37)) (Pos.mk 702 27 702 37)), (Expr.Compare (Expr.Name (Str.ofString "result") (Pos.mk 702 44 702 50)) [CmpOp.Eq] [(Expr.Constant (Const.str (Str.ofString "")) 0 (Pos.mk 702 54 702 56))] (Pos.mk 702 44 702 56))] (Pos.mk 702 11 702 57)) [(Stmt.Assign [(Expr.Name (Str.ofString "result") (Pos.mk 703 12 703 18))] (Expr.Constant Const.none 0 (Pos.mk 703 21 703 25)) (Pos.mk 703 12 703 25))] [] (Pos.mk 702 8 703 25)), (Stmt.If (Expr.Compare (Expr.Attribute (Expr.Name (Str.ofString "self") (Pos.mk 704 11 704 15)) (Str.ofString "debug") (Pos.mk 704 11 704 21)) [CmpOp.Gt] [(Expr.Constant (Const.int 1) 0 (Pos.mk 704 24 704 25))] (Pos.mk 704 11 704 25)) [(Stmt.If (Expr.Name (Str.ofString "result") (Pos.mk 705 15 705 21)) [(Stmt.Expr (Expr.Call (Expr.Name (Str.ofString "print") (Pos.mk 706 16 706 21)) [(Expr.BinOp (Expr.Constant (Const.str (Str.ofString "shlex: raw token=")) 0 (Pos.mk 706 22 706 41)) Operator.Add (Expr.Call (Expr.Name (Str.ofString "repr") (Pos.mk 706 44 706 48)) [(Expr.Name (Str.ofString "result") (Pos.mk 706 49 706 55))] [] (Pos.mk 706 44 706 56)) (Pos.mk 706 22 706 56))] [] (Pos.mk 706 16 706 57)) (Pos.mk 706 16 706 57))] [(Stmt.Expr (Expr.Call (Expr.Name (Str.ofString "print") (Pos.mk 708 16 708 21)) [(Expr.Constant (Const.str (Str.ofString "shlex: raw token=EOF")) 0 (Pos.mk 708 22 708 44))] [] (Pos.mk 708 16 708 45)) (Pos.mk 708 16 708 45))] (Pos.mk 705 12 708 45))] [] (Pos.mk 704 8 708 45)), (Stmt.Return (some (Expr.Name (Str.ofString "result") (Pos.mk 709 15 709 21))) (Pos.mk 709 8 709 21))]) (Scope.mk ScopeKind.function [((Str.ofString "self"), NameKind.local), ((Str.ofString "quoted"), NameKind.local), ((Str.ofString "escapedstate"), NameKind.local), ((Str.ofString "nextchar"), NameKind.local), ((Str.ofString "result"), NameKind.local), ((Str.ofString "print"), NameKind.globalImplicit), ((Str.ofString "ValueError"), NameKind.globalImplicit), ((Str.ofString "repr"), NameKind.globalImplicit)] false false []) 3 [] Value.none Value.none Value.none (Value.str (Str.ofString "cpy313.shlex") 1115) none (Value.ref 711) Value.none 0)) #[])) ::
  (nat_lit 743, (Obj.mk (Value.type "dict") none (Data.dict #[dk P "__module__" 1124 (Value.str (Str.ofString "cpy313.shlex") 1115), dk P "__firstlineno__" 1128 (Value.int 477 1127), dk P "__init__" 1140 (Value.ref 668), dk P "punctuation_chars" 1148 (Value.ref 676), dk P "push_token" 1156 (Value.ref 683), dk P "push_source" 1165 (Value.ref 691), dk P "pop_source" 1172 (Value.ref 698), dk P "get_token" 1184 (Value.ref 705), dk P "read_token" 1195 (Value.ref 712), dk P "sourcehook" 1203 (Value.ref 719), dk P "error_leader" 1212 (Value.ref 727), dk P "__iter__" 1219 (Value.ref 734), dk P "__next__" 1227 (Value.ref 741), dk P "__static_attributes__" 1248 (Value.ref 742), dk P "__dict__" 1250 (Value.ref 745), dk P "__weakref__" 1252 (Value.ref 746), dk P "__doc__" 1253 Value.none] 4) #[])) ::
  (nat_lit 744, (Obj.mk (Value.type "type") none (Data.cls (ClassData.mk (Str.ofString "shlex") [(Value.type "object")] [(Value.ref 744), (Value.type "object")] 743 (Str.ofString "shlex") true [] [] false none false)) #[none, none, (some (Value.str (Str.ofString "shlex") 1117)), (some (Value.str (Str.ofString "shlex") 1125)), (some (Value.builtin "object.__new__")), (some (Value.bool true))])) ::
  (nat_lit 754, (Obj.mk (Value.type "code") none (Data.fields #[(Value.str (Str.ofString "unorderable_list_difference") 1258), (Value.str (Str.ofString "unorderable_list_difference") 1259), (Value.str (Str.ofString "/claim/cut.py") 1260), (Value.int 730 0), (Value.int 2 0), (Value.int 0 0), (Value.int 0 0), (Value.int 3 0), (Value.ref 749), (Value.bool true), (Value.int 318 0), (Value.ref 750), Value.none, (Value.ref 751), (Value.ref 752), (Value.ref 753), (Value.int 1265 0), (Value.int 730 0), (Value.str (Str.ofString "/claim/cut.py") 1266)]) #[])) ::
  (nat_lit 755, (Obj.mk (Value.type "function") none (Data.func (FuncData.mk (Str.ofString "unorderable_list_difference") (Str.ofString "unorderable_list_difference") (Arguments.mk [] [(Arg.mk (Str.ofString "expected") none (Pos.mk 730 32 730 40)), (Arg.mk (Str.ofString "actual") none (Pos.mk 730 42 730 48))] none [] [] none []) (FuncBody.stmts [(Stmt.Assign [(Expr.Name (Str.ofString "missing") (Pos.mk 731 4 731 11))] (Expr.List [] (Pos.mk 731 14 731 16)) (Pos.mk 731 4 731 16)), (Stmt.While (Expr.Name (Str.ofString "expected") (Pos.mk 732 10 732 18)) [(Stmt.Assign [(Expr.Name (Str.ofString "item") (Pos.mk 733 8 733 12))] (Expr.Call (Expr.Attribute (Expr.Name (Str.ofString "expected") (Pos.mk 733 15 733 23)) (Str.ofString "pop") (Pos.mk 733 15 733 27)) [] [] (Pos.mk 733 15 733 29)) (Pos.mk 733 8 733 29)), (Stmt.Try [(Stmt.Expr (Expr.Call (Expr.Attribute (Expr.Name (Str.ofString "actual") (Pos.mk 735 12 735 18)) (Str.ofString "remove") (Pos.mk 735 12 735 25)) [(Expr.Name (Str.ofString "item") (Pos.mk 735 26 735 30))] [] (Pos.mk 735 12 735 31)) (Pos.mk 735 12 735 31))] [(ExceptHandler.ExceptHandler (some (Expr.Name (Str.ofString "ValueError") (Pos.mk 736 15 736 25))) none [(Stmt.Expr (Expr.Call (Expr.Attribute (Expr.Name (Str.ofString "missing") (Pos.mk 737 12 737 19)) (Str.ofString "append") (Pos.mk 737 12 737 26)) [(Expr.Name (Str.ofString "item") (Pos.mk 737 27 737 31))] [] (Pos.mk 737 12 737 32)) (Pos.mk 737 12 737 32))] (Pos.mk 736 8 737 32))] [] [] (Pos.mk 734 8 737 32))] [] (Pos.mk 732 4 737 32)), (Stmt.Return (some (Expr.Tuple [(Expr.Name (Str.ofString "missing") (Pos.mk 738 12 738 19)), (Expr.Name (Str.ofString "actual") (Pos.mk 738 21 738 27))] 0 (Pos.mk 738 11 738 28))) (Pos.mk 738 4 738 28))]) (Scope.mk ScopeKind.function [((Str.ofString "expected"), NameKind.local), ((Str.ofString "actual"), NameKind.local), ((Str.ofString "missing"), NameKind.local), ((Str.ofString "item"), NameKind.local), ((Str.ofString "ValueError"), NameKind.globalImplicit)] false false []) 3 [] Value.none Value.none Value.none (Value.str (Str.ofString "cpy313.unittest.util") 1256) none (Value.ref 754) Value.none 0)) #[])) ::
  (nat_lit 761, (Obj.mk (Value.type "code") none (Data.fields #[(Value.str (Str.ofString "_law_text") 1270), (Value.str (Str.ofString "_law_text") 1271), (Value.str (Str.ofString "/claim/cut.py") 1272), (Value.int 740 0), (Value.int 1 0), (Value.int 0 0), (Value.int 0 0), (Value.int 3 0), (Value.ref 756), (Value.bool true), (Value.int 318 0), (Value.ref 757), Value.none, (Value.ref 758), (Value.ref 759), (Value.ref 760), (Value.int 1277 0), (Value.int 740 0), (Value.str (Str.ofString "/claim/cut.py") 1278)]) #[])) ::
  (nat_lit 762, (Obj.mk (Value.type "function") none (Data.func (FuncData.mk (Str.ofString "_law_text") (Str.ofString "_law_text") (Arguments.mk [] [(Arg.mk (Str.ofString "cells") none (Pos.mk 740 14 740 19))] none [] [] none []) (FuncBody.stmts [(Stmt.Assign [(Expr.Name (Str.ofString "text") (Pos.mk 741 4 741 8))] (Expr.Constant (Const.str (Str.ofString "")) 0 (Pos.mk 741 11 741 13)) (Pos.mk 741 4 741 13)), (Stmt.For (Expr.Name (Str.ofString "cell") (Pos.mk 742 8 742 12)) (Expr.Name (Str.ofString "cells") (Pos.mk 742 16 742 21)) [(Stmt.Assign [(Expr.Name (Str.ofString "sign") (Pos.mk 743 8 743 12))] (Expr.Call (Expr.Name (Str.ofString "chr") (Pos.mk 743 15 743 18)) [(Expr.BinOp (Expr.BinOp (Expr.Name (Str.ofString "cell") (Pos.mk 743 19 743 23)) Operator.FloorDiv (Expr.Constant (Const.int 18) 0 (Pos.mk 743 27 743 29)) (Pos.mk 743 19 743 29)) Operator.Mod (Expr.Constant (Const.int 55296) 0 (Pos.mk 743 32 743 37)) (Pos.mk 743 19 743 37))] [] (Pos.mk 743 15 743 38)) (Pos.mk 743 8 743 38)), (Stmt.If (Expr.Compare (Expr.Name (Str.ofString "sign") (Pos.mk 744 11 744 15)) [CmpOp.In] [(Expr.Constant (Const.str (Str.ofString "\x0d\n")) 0 (Pos.mk 744 19 744 25))] (Pos.mk 744 11 744 25)) [(Stmt.Assign [(Expr.Name (Str.ofString "sign") (Pos.mk 745 12 745 16))] (Expr.Constant (Const.str (Str.ofString " ")) 0 (Pos.mk 745 19 745 22)) (Pos.mk 745 12 745 22))] [] (Pos.mk 744 8 745 22)), (Stmt.AugAssign (Expr.Name (Str.ofString "text") (Pos.mk 746 8 746 12)) Operator.Add (Expr.BinOp (Expr.Subscript (Expr.List [(Expr.Constant (Const.str (Str.ofString "")) 0 (Pos.mk 746 17 746 19)), (Expr.Constant (Const.str (Str.ofString "")) 0 (Pos.mk 746 21 746 23)), (Expr.Constant (Const.str (Str.ofString ".")) 0 (Pos.mk 746 25 746 28)), (Expr.Constant (Const.str (Str.ofString "..")) 0 (Pos.mk 746 30 746 34)), (Expr.Name (Str.ofString "sign") (Pos.mk 746 36 746 40)), (Expr.BinOp (Expr.Constant (Const.str (Str.ofString ".")) 0 (Pos.mk 746 42 746 45)) Operator.Add (Expr.Name (Str.ofString "sign") (Pos.mk 746 48 746 52)) (Pos.mk 746 42 746 52))] (Pos.mk 746 16 746 53)) (Expr.BinOp (Expr.BinOp (Expr.Name (Str.ofString "cell") (Pos.mk 746 54 746 58)) Operator.FloorDiv (Expr.Constant (Const.int 3) 0 (Pos.mk 746 62 746 63)) (Pos.mk 746 54 746 63)) Operator.Mod (Expr.Constant (Const.int 6) 0 (Pos.mk 746 66 746 67)) (Pos.mk 746 54 746 67)) (Pos.mk 746 16 746 68)) Operator.Add (Expr.Subscript (Expr.List [(Expr.Constant (Const.str (Str.ofString "\n")) 0 (Pos.mk 746 72 746 76)), (Expr.Constant (Const.str (Str.ofString "\x0d")) 0 (Pos.mk 746 78 746 82)), (Expr.Constant (Const.str (Str.ofString "\x0d\n")) 0 (Pos.mk 746 84 746 90))] (Pos.mk 746 71 746 91)) (Expr.BinOp (Expr.Name (Str.ofString "cell") (Pos.mk 746 92 746 96)) Operator.Mod (Expr.Constant (Const.int 3) 0 (Pos.mk 746 99 746 100)) (Pos.mk 746 92 746 100)) (Pos.mk 746 71 746 101)) (Pos.mk 746 16 746 101)) (Pos.mk 746 8 746 101))] [] (Pos.mk 742 4 746 101)), (Stmt.Return (some (Expr.BinOp (Expr.Name (Str.ofString "text") (Pos.mk 747 11 747 15)) Operator.Add (Expr.BinOp (Expr.Constant (Const.str (Str.ofString ".")) 0 (Pos.mk 747 18 747 21)) Operator.Mult (Expr.BinOp (Expr.Call (Expr.Name (Str.ofString "sum") (Pos.mk 747 25 747 28)) [(Expr.Name (Str.ofString "cells") (Pos.mk 747 29 747 34))] [] (Pos.mk 747 25 747 35)) Operator.Mod (Expr.Constant (Const.int 2) 0 (Pos.mk 747 38 747 39)) (Pos.mk 747 25 747 39)) (Pos.mk 747 18 747 40)) (Pos.mk 747 11 747 40))) (Pos.mk 747 4 747 40))]) (Scope.mk ScopeKind.function [((Str.ofString "cells"), NameKind.local), ((Str.ofString "text"), NameKind.local), ((Str.ofString "cell"), NameKind.local), ((Str.ofString "sign"), NameKind.local), ((Str.ofString "chr"), NameKind.globalImplicit), ((Str.ofString "sum"), NameKind.globalImplicit)] false false []) 3 [] Value.none Value.none Value.none (Value.str (Str.ofString "law_oc0215_01") 1268) none (Value.ref 761) Value.none 0)) #[])) ::
  (nat_lit 768, (Obj.mk (Value.type "code") none (Data.fields #[(Value.str (Str.ofString "_law_tokens") 1280), (Value.str (Str.ofString "_law_tokens") 1281), (Value.str (Str.ofString "/claim/cut.py") 1282), (Value.int 748 0), (Value.int 1 0), (Value.int 0 0), (Value.int 0 0), (Value.int 3 0), (Value.ref 763), (Value.bool true), (Value.int 318 0), (Value.ref 764), Value.none, (Value.ref 765), (Value.ref 766), (Value.ref 767), (Value.int 1287 0), (Value.int 748 0), (Value.str (Str.ofString "/claim/cut.py") 1288)]) #[])) ::
  (nat_lit 769, (Obj.mk (Value.type "function") none (Data.func (FuncData.mk (Str.ofString "_law_tokens") (Str.ofString "_law_tokens") (Arguments.mk [] [(Arg.mk (Str.ofString "sent") none (Pos.mk 748 16 748 20))] none [] [] none []) (FuncBody.stmts [(Stmt.Assign [(Expr.Name (Str.ofString "lexer") (Pos.mk 749 4 749 9))] (Expr.Call (Expr.Name (Str.ofString "shlex") (Pos.mk 749 12 749 17)) [(Expr.Name (Str.ofString "sent") (Pos.mk 749 18 749 22))] [(Keyword.mk (some (Str.ofString "punctuation_chars")) (Expr.Constant (Const.str (Str.ofString "\x0d\n")) 0 (Pos.mk 749 42 749 48)) (Pos.mk 749 24 749 48))] (Pos.mk 749 12 749 49)) (Pos.mk 749 4 749 49)), (Stmt.Assign [(Expr.Attribute (Expr.Name (Str.ofString "lexer") (Pos.mk 750 4 750 9)) (Str.ofString "whitespace") (Pos.mk 750 4 750 20))] (Expr.Constant (Const.str (Str.ofString "")) 0 (Pos.mk 750 23 750 25)) (Pos.mk 750 4 750 25)), (Stmt.Assign [(Expr.Attribute (Expr.Name (Str.ofString "lexer") (Pos.mk 751 4 751 9)) (Str.ofString "quotes") (Pos.mk 751 4 751 16))] (Expr.Constant (Const.str (Str.ofString "")) 0 (Pos.mk 751 19 751 21)) (Pos.mk 751 4 751 21)), (Stmt.Assign [(Expr.Attribute (Expr.Name (Str.ofString "lexer") (Pos.mk 752 4 752 9)) (Str.ofString "commenters") (Pos.mk 752 4 752 20))] (Expr.Constant (Const.str (Str.ofString "")) 0 (Pos.mk 752 23 752 25)) (Pos.mk 752 4 752 25)), (Stmt.Assign [(Expr.Attribute (Expr.Name (Str.ofString "lexer") (Pos.mk 753 4 753 9)) (Str.ofString "whitespace_split") (Pos.mk 753 4 753 26))] (Expr.Constant (Const.bool true) 0 (Pos.mk 753 29 753 33)) (Pos.mk 753 4 753 33)), (Stmt.Assign [(Expr.Tuple [(Expr.Name (Str.ofString "tokens") (Pos.mk 754 4 754 10)), (Expr.Name (Str.ofString "token") (Pos.mk 754 12 754 17))] 0 (Pos.mk 754 4 754 17))] (Expr.Tuple [(Expr.List [] (Pos.mk 754 21 754 23)), (Expr.Call (Expr.Attribute (Expr.Name (Str.ofString "lexer") (Pos.mk 754 25 754 30)) (Str.ofString "get_token") (Pos.mk 754 25 754 40)) [] [] (Pos.mk 754 25 754 42))] 0 (Pos.mk 754 20 754 43)) (Pos.mk 754 4 754 43)), (Stmt.While (Expr.Name (Str.ofString "token") (Pos.mk 755 10 755 15)) [(Stmt.Expr (Expr.Call (Expr.Attribute (Expr.Name (Str.ofString "tokens") (Pos.mk 756 8 756 14)) (Str.ofString "append") (Pos.mk 756 8 756 21)) [(Expr.Name (Str.ofString "token") (Pos.mk 756 22 756 27))] [] (Pos.mk 756 8 756 28)) (Pos.mk 756 8 756 28)), (Stmt.Assign [(Expr.Name (Str.ofString "token") (Pos.mk 757 8 757 13))] (Expr.Call (Expr.Attribute (Expr.Name (Str.ofString "lexer") (Pos.mk 757 16 757 21)) (Str.ofString "get_token") (Pos.mk 757 16 757 31)) [] [] (Pos.mk 757 16 757 33)) (Pos.mk 757 8 757 33))] [] (Pos.mk 755 4 757 33)), (Stmt.Return (some (Expr.Name (Str.ofString "tokens") (Pos.mk 758 11 758 17))) (Pos.mk 758 4 758 17))]) (Scope.mk ScopeKind.function [((Str.ofString "sent"), NameKind.local), ((Str.ofString "lexer"), NameKind.local), ((Str.ofString "tokens"), NameKind.local), ((Str.ofString "token"), NameKind.local), ((Str.ofString "shlex"), NameKind.globalImplicit)] false false []) 3 [] Value.none Value.none Value.none (Value.str (Str.ofString "law_oc0215_01") 1268) none (Value.ref 768) Value.none 0)) #[])) ::
  (nat_lit 775, (Obj.mk (Value.type "code") none (Data.fields #[(Value.str (Str.ofString "_law_word") 1290), (Value.str (Str.ofString "_law_word") 1291), (Value.str (Str.ofString "/claim/cut.py") 1292), (Value.int 759 0), (Value.int 1 0), (Value.int 0 0), (Value.int 0 0), (Value.int 3 0), (Value.ref 770), (Value.bool true), (Value.int 318 0), (Value.ref 771), Value.none, (Value.ref 772), (Value.ref 773), (Value.ref 774), (Value.int 1294 0), (Value.int 759 0), (Value.str (Str.ofString "/claim/cut.py") 1295)]) #[])) ::
  (nat_lit 776, (Obj.mk (Value.type "function") none (Data.func (FuncData.mk (Str.ofString "_law_word") (Str.ofString "_law_word") (Arguments.mk [] [(Arg.mk (Str.ofString "token") none (Pos.mk 759 14 759 19))] none [] [] none []) (FuncBody.stmts [(Stmt.Return (some (Expr.IfExp (Expr.Compare (Expr.Subscript (Expr.Name (Str.ofString "token") (Pos.mk 760 24 760 29)) (Expr.Constant (Const.int 0) 0 (Pos.mk 760 30 760 31)) (Pos.mk 760 24 760 32)) [CmpOp.Eq] [(Expr.Constant (Const.str (Str.ofString ".")) 0 (Pos.mk 760 36 760 39))] (Pos.mk 760 24 760 39)) (Expr.Subscript (Expr.Name (Str.ofString "token") (Pos.mk 760 11 760 16)) (Expr.Slice (some (Expr.Constant (Const.int 1) 0 (Pos.mk 760 17 760 18))) none none (Pos.mk 760 17 760 19)) (Pos.mk 760 11 760 20)) (Expr.Name (Str.ofString "token") (Pos.mk 760 45 760 50)) (Pos.mk 760 11 760 50))) (Pos.mk 760 4 760 50))]) (Scope.mk ScopeKind.function [((Str.ofString "token"), NameKind.local)] false false []) 3 [] Value.none Value.none Value.none (Value.str (Str.ofString "law_oc0215_01") 1268) none (Value.ref 775) Value.none 0)) #[])) ::
  (nat_lit 782, (Obj.mk (Value.type "code") none (Data.fields #[(Value.str (Str.ofString "_law_sent") 1297), (Value.str (Str.ofString "_law_sent") 1298), (Value.str (Str.ofString "/claim/cut.py") 1299), (Value.int 761 0), (Value.int 1 0), (Value.int 0 0), (Value.int 0 0), (Value.int 3 0), (Value.ref 777), (Value.bool true), (Value.int 318 0), (Value.ref 778), Value.none, (Value.ref 779), (Value.ref 780), (Value.ref 781), (Value.int 1302 0), (Value.int 761 0), (Value.str (Str.ofString "/claim/cut.py") 1303)]) #[])) ::
  (nat_lit 783, (Obj.mk (Value.type "function") none (Data.func (FuncData.mk (Str.ofString "_law_sent") (Str.ofString "_law_sent") (Arguments.mk [] [(Arg.mk (Str.ofString "token") none (Pos.mk 761 14 761 19))] none [] [] none []) (FuncBody.stmts [(Stmt.If (Expr.Compare (Expr.Subscript (Expr.Name (Str.ofString "token") (Pos.mk 762 7 762 12)) (Expr.Constant (Const.int 0) 0 (Pos.mk 762 13 762 14)) (Pos.mk 762 7 762 15)) [CmpOp.In] [(Expr.Constant (Const.str (Str.ofString "\x0d\n")) 0 (Pos.mk 762 19 762 25))] (Pos.mk 762 7 762 25)) [(Stmt.Return (some (Expr.BinOp (Expr.Constant (Const.str (Str.ofString "\x0d\n")) 0 (Pos.mk 763 15 763 21)) Operator.Mult (Expr.BinOp (Expr.Call (Expr.Name (Str.ofString "len") (Pos.mk 763 25 763 28)) [(Expr.Name (Str.ofString "token") (Pos.mk 763 29 763 34))] [] (Pos.mk 763 25 763 35)) Operator.FloorDiv (Expr.Constant (Const.int 2) 0 (Pos.mk 763 39 763 40)) (Pos.mk 763 25 763 40)) (Pos.mk 763 15 763 41))) (Pos.mk 763 8 763 41))] [] (Pos.mk 762 4 763 41)), (Stmt.Assign [(Expr.Name (Str.ofString "word") (Pos.mk 764 4 764 8))] (Expr.Call (Expr.Name (Str.ofString "_law_word") (Pos.mk 764 11 764 20)) [(Expr.Name (Str.ofString "token") (Pos.mk 764 21 764 26))] [] (Pos.mk 764 11 764 27)) (Pos.mk 764 4 764 27)), (Stmt.Return (some (Expr.IfExp (Expr.Compare (Expr.Subscript (Expr.Name (Str.ofString "word") (Pos.mk 765 25 765 29)) (Expr.Slice none (some (Expr.Constant (Const.int 1) 0 (Pos.mk 765 31 765 32))) none (Pos.mk 765 30 765 32)) (Pos.mk 765 25 765 33)) [CmpOp.Eq] [(Expr.Constant (Const.str (Str.ofString ".")) 0 (Pos.mk 765 37 765 40))] (Pos.mk 765 25 765 40)) (Expr.BinOp (Expr.Constant (Const.str (Str.ofString ".")) 0 (Pos.mk 765 11 765 14)) Operator.Add (Expr.Name (Str.ofString "word") (Pos.mk 765 17 765 21)) (Pos.mk 765 11 765 21)) (Expr.Name (Str.ofString "word") (Pos.mk 765 46 765 50)) (Pos.mk 765 11 765 50))) (Pos.mk 765 4 765 50))]) (Scope.mk ScopeKind.function [((Str.ofString "token"), NameKind.local), ((Str.ofString "word"), NameKind.local), ((Str.ofString "len"), NameKind.globalImplicit), ((Str.ofString "_law_word"), NameKind.globalImplicit)] false false []) 3 [] Value.none Value.none Value.none (Value.str (Str.ofString "law_oc0215_01") 1268) none (Value.ref 782) Value.none 0)) #[])) ::
  (nat_lit 787, (Obj.mk (Value.type "code") none (Data.fields #[(Value.str (Str.ofString "_law_texts") 1305), (Value.str (Str.ofString "_law_texts") 1306), (Value.str (Str.ofString "/claim/cut.py") 1307), (Value.int 766 0), (Value.int 1 0), (Value.int 0 0), (Value.int 0 0), (Value.int 3 0), (Value.ref 784), (Value.bool true), (Value.int 318 0), (Value.ref 785), Value.none, Value.none, Value.none, (Value.ref 786), (Value.int 1308 0), (Value.int 766 0), (Value.str (Str.ofString "/claim/cut.py") 1309)]) #[])) ::
  (nat_lit 788, (Obj.mk (Value.type "function") none (Data.func (FuncData.mk (Str.ofString "_law_texts") (Str.ofString "_law_texts") (Arguments.mk [] [(Arg.mk (Str.ofString "tokens") none (Pos.mk 766 15 766 21))] none [] [] none []) (FuncBody.stmts [(Stmt.Assign [(Expr.Name (Str.ofString "texts") (Pos.mk 767 4 767 9))] (Expr.List [(Expr.Constant (Const.str (Str.ofString "")) 0 (Pos.mk 767 13 767 15))] (Pos.mk 767 12 767 16)) (Pos.mk 767 4 767 16)), (Stmt.For (Expr.Name (Str.ofString "token") (Pos.mk 768 8 768 13)) (Expr.Name (Str.ofString "tokens") (Pos.mk 768 17 768 23)) [(Stmt.If (Expr.Compare (Expr.Subscript (Expr.Name (Str.ofString "token") (Pos.mk 769 11 769 16)) (Expr.Constant (Const.int 0) 0 (Pos.mk 769 17 769 18)) (Pos.mk 769 11 769 19)) [CmpOp.In] [(Expr.Constant (Const.str (Str.ofString "\x0d\n")) 0 (Pos.mk 769 23 769 29))] (Pos.mk 769 11 769 29)) [(Stmt.For (Expr.Name (Str.ofString "turn") (Pos.mk 770 16 770 20)) (Expr.Call (Expr.Name (Str.ofString "range") (Pos.mk 770 24 770 29)) [(Expr.BinOp (Expr.Call (Expr.Name (Str.ofString "len") (Pos.mk 770 30 770 33)) [(Expr.Name (Str.ofString "token") (Pos.mk 770 34 770 39))] [] (Pos.mk 770 30 770 40)) Operator.FloorDiv (Expr.Constant (Const.int 2) 0 (Pos.mk 770 44 770 45)) (Pos.mk 770 30 770 45))] [] (Pos.mk 770 24 770 46)) [(Stmt.Assign [(Expr.Name (Str.ofString "texts") (Pos.mk 771 16 771 21))] (Expr.ListComp (Expr.BinOp (Expr.Name (Str.ofString "text") (Pos.mk 771 25 771 29)) Operator.Add (Expr.Name (Str.ofString "end") (Pos.mk 771 32 771 35)) (Pos.mk 771 25 771 35)) [(Comprehension.mk (Expr.Name (Str.ofString "text") (Pos.mk 771 40 771 44)) (Expr.Name (Str.ofString "texts") (Pos.mk 771 48 771 53)) [] 0), (Comprehension.mk (Expr.Name (Str.ofString "end") (Pos.mk 771 58 771 61)) (Expr.Tuple [(Expr.Constant (Const.str (Str.ofString "\n")) 0 (Pos.mk 771 66 771 70)), (Expr.Constant (Const.str (Str.ofString "\x0d")) 0 (Pos.mk 771 72 771 76)), (Expr.Constant (Const.str (Str.ofString "\x0d\n")) 0 (Pos.mk 771 78 771 84))] 0 (Pos.mk 771 65 771 85)) [] 0)] (Scope.mk ScopeKind.function [((Str.ofString ".0"), NameKind.local), ((Str.ofString "text"), NameKind.local), ((Str.ofString "end"), NameKind.local)] false false []) (Pos.mk 771 24 771 86)) (Pos.mk 771 16 771 86))] [] (Pos.mk 770 12 771 86))] [(Stmt.Assign [(Expr.Name (Str.ofString "texts") (Pos.mk 773 12 773 17))] (Expr.ListComp (Expr.BinOp (Expr.Name (Str.ofString "text") (Pos.mk 773 21 773 25)) Operator.Add (Expr.Call (Expr.Name (Str.ofString "_law_word") (Pos.mk 773 28 773 37)) [(Expr.Name (Str.ofString "token") (Pos.mk 773 38 773 43))] [] (Pos.mk 773 28 773 44)) (Pos.mk 773 21 773 44)) [(Comprehension.mk (Expr.Name (Str.ofString "text") (Pos.mk 773 49 773 53)) (Expr.Name (Str.ofString "texts") (Pos.mk 773 57 773 62)) [] 0)] (Scope.mk ScopeKind.function [((Str.ofString ".0"), NameKind.local), ((Str.ofString "text"), NameKind.local), ((Str.ofString "_law_word"), NameKind.globalImplicit), ((Str.ofString "token"), NameKind.free)] false false []) (Pos.mk 773 20 773 63)) (Pos.mk 773 12 773 63))] (Pos.mk 769 8 773 63))] [] (Pos.mk 768 4 773 63)), (Stmt.Return (some (Expr.Name (Str.ofString "texts") (Pos.mk 774 11 774 16))) (Pos.mk 774 4 774 16))]) (Scope.mk ScopeKind.function [((Str.ofString "tokens"), NameKind.local), ((Str.ofString "texts"), NameKind.local), ((Str.ofString "token"), NameKind.cell), ((Str.ofString "turn"), NameKind.local), ((Str.ofString "range"), NameKind.globalImplicit), ((Str.ofString "len"), NameKind.globalImplicit)] false false [((Str.ofString "fast"), (Const.str (Str.ofString "tokens"))), ((Str.ofString "fast"), (Const.str (Str.ofString "texts"))), ((Str.ofString "fast"), (Const.str (Str.ofString "token"))), ((Str.ofString "fast"), (Const.str (Str.ofString "turn"))), ((Str.ofString "fast"), (Const.str (Str.ofString "text"))), ((Str.ofString "fast"), (Const.str (Str.ofString "end")))]) 3 [] Value.none Value.none Value.none (Value.str (Str.ofString "law_oc0215_01") 1268) none (Value.ref 787) Value.none 0)) #[])) ::
  (nat_lit 794, (Obj.mk (Value.type "code") none (Data.fields #[(Value.str (Str.ofString "_law_second") 1311), (Value.str (Str.ofString "_law_second") 1312), (Value.str (Str.ofString "/claim/cut.py") 1313), (Value.int 775 0), (Value.int 1 0), (Value.int 0 0), (Value.int 0 0), (Value.int 3 0), (Value.ref 789), (Value.bool true), (Value.int 318 0), (Value.ref 790), Value.none, (Value.ref 791), (Value.ref 792), (Value.ref 793), (Value.int 1318 0), (Value.int 775 0), (Value.str (Str.ofString "/claim/cut.py") 1319)]) #[])) ::
  (nat_lit 795, (Obj.mk (Value.type "function") none (Data.func (FuncData.mk (Str.ofString "_law_second") (Str.ofString "_law_second") (Arguments.mk [] [(Arg.mk (Str.ofString "ends") none (Pos.mk 775 16 775 20))] none [] [] none []) (FuncBody.stmts [(Stmt.Assign [(Expr.Tuple [(Expr.Name (Str.ofString "one") (Pos.mk 776 4 776 7)), (Expr.Name (Str.ofString "two") (Pos.mk 776 9 776 12))] 0 (Pos.mk 776 4 776 12))] (Expr.Tuple [(Expr.Constant (Const.int 1) 0 (Pos.mk 776 16 776 17)), (Expr.Constant (Const.int 1) 0 (Pos.mk 776 19 776 20))] 0 (Pos.mk 776 15 776 21)) (Pos.mk 776 4 776 21)), (Stmt.For (Expr.Name (Str.ofString "turn") (Pos.mk 777 8 777 12)) (Expr.Call (Expr.Name (Str.ofString "range") (Pos.mk 777 16 777 21)) [(Expr.Name (Str.ofString "ends") (Pos.mk 777 22 777 26))] [] (Pos.mk 777 16 777 27)) [(Stmt.Assign [(Expr.Tuple [(Expr.Name (Str.ofString "one") (Pos.mk 778 8 778 11)), (Expr.Name (Str.ofString "two") (Pos.mk 778 13 778 16))] 0 (Pos.mk 778 8 778 16))] (Expr.Tuple [(Expr.BinOp (Expr.Name (Str.ofString "one") (Pos.mk 778 20 778 23)) Operator.Add (Expr.Name (Str.ofString "two") (Pos.mk 778 26 778 29)) (Pos.mk 778 20 778 29)), (Expr.BinOp (Expr.BinOp (Expr.Name (Str.ofString "one") (Pos.mk 778 31 778 34)) Operator.Add (Expr.Name (Str.ofString "two") (Pos.mk 778 37 778 40)) (Pos.mk 778 31 778 40)) Operator.Add (Expr.Name (Str.ofString "two") (Pos.mk 778 43 778 46)) (Pos.mk 778 31 778 46))] 0 (Pos.mk 778 19 778 47)) (Pos.mk 778 8 778 47))] [] (Pos.mk 777 4 778 47)), (Stmt.Return (some (Expr.Name (Str.ofString "two") (Pos.mk 779 11 779 14))) (Pos.mk 779 4 779 14))]) (Scope.mk ScopeKind.function [((Str.ofString "ends"), NameKind.local), ((Str.ofString "one"), NameKind.local), ((Str.ofString "two"), NameKind.local), ((Str.ofString "turn"), NameKind.local), ((Str.ofString "range"), NameKind.globalImplicit)] false false []) 3 [] Value.none Value.none Value.none (Value.str (Str.ofString "law_oc0215_01") 1268) none (Value.ref 794) Value.none 0)) #[])) ::
  (nat_lit 799, (Obj.mk (Value.type "code") none (Data.fields #[(Value.str (Str.ofString "_law_sizes") 1321), (Value.str (Str.ofString "_law_sizes") 1322), (Value.str (Str.ofString "/claim/cut.py") 1323), (Value.int 780 0), (Value.int 1 0), (Value.int 0 0), (Value.int 0 0), (Value.int 3 0), (Value.ref 796), (Value.bool true), (Value.int 318 0), (Value.ref 797), Value.none, Value.none, Value.none, (Value.ref 798), (Value.int 1324 0), (Value.int 780 0), (Value.str (Str.ofString "/claim/cut.py") 1325)]) #[])) ::
  (nat_lit 800, (Obj.mk (Value.type "function") none (Data.func (FuncData.mk (Str.ofString "_law_sizes") (Str.ofString "_law_sizes") (Arguments.mk [] [(Arg.mk (Str.ofString "ends") none (Pos.mk 780 15 780 19))] none [] [] none []) (FuncBody.stmts [(Stmt.Assign [(Expr.Tuple [(Expr.Name (Str.ofString "before") (Pos.mk 781 4 781 10)), (Expr.Name (Str.ofString "sizes") (Pos.mk 781 12 781 17))] 0 (Pos.mk 781 4 781 17))] (Expr.Tuple [(Expr.List [] (Pos.mk 781 21 781 23)), (Expr.List [(Expr.Constant (Const.int 0) 0 (Pos.mk 781 26 781 27))] (Pos.mk 781 25 781 28))] 0 (Pos.mk 781 20 781 29)) (Pos.mk 781 4 781 29)), (Stmt.For (Expr.Name (Str.ofString "turn") (Pos.mk 782 8 782 12)) (Expr.Call (Expr.Name (Str.ofString "range") (Pos.mk 782 16 782 21)) [(Expr.Name (Str.ofString "ends") (Pos.mk 782 22 782 26))] [] (Pos.mk 782 16 782 27)) [(Stmt.Assign [(Expr.Name (Str.ofString "longer") (Pos.mk 783 8 783 14))] (Expr.ListComp (Expr.BinOp (Expr.Name (Str.ofString "size") (Pos.mk 783 18 783 22)) Operator.Add (Expr.Name (Str.ofString "more") (Pos.mk 783 25 783 29)) (Pos.mk 783 18 783 29)) [(Comprehension.mk (Expr.Name (Str.ofString "size") (Pos.mk 783 34 783 38)) (Expr.Name (Str.ofString "sizes") (Pos.mk 783 42 783 47)) [] 0), (Comprehension.mk (Expr.Name (Str.ofString "more") (Pos.mk 783 52 783 56)) (Expr.Tuple [(Expr.Constant (Const.int 1) 0 (Pos.mk 783 61 783 62)), (Expr.Constant (Const.int 1) 0 (Pos.mk 783 64 783 65)), (Expr.Constant (Const.int 2) 0 (Pos.mk 783 67 783 68))] 0 (Pos.mk 783 60 783 69)) [] 0)] (Scope.mk ScopeKind.function [((Str.ofString ".0"), NameKind.local), ((Str.ofString "size"), NameKind.local), ((Str.ofString "more"), NameKind.local)] false false []) (Pos.mk 783 17 783 70)) (Pos.mk 783 8 783 70)), (Stmt.Assign [(Expr.Tuple [(Expr.Name (Str.ofString "kept") (Pos.mk 784 8 784 12)), (Expr.Name (Str.ofString "left") (Pos.mk 784 14 784 18))] 0 (Pos.mk 784 8 784 18))] (Expr.Call (Expr.Name (Str.ofString "unorderable_list_difference") (Pos.mk 784 21 784 48)) [(Expr.Name (Str.ofString "longer") (Pos.mk 784 49 784 55)), (Expr.ListComp (Expr.BinOp (Expr.Name (Str.ofString "size") (Pos.mk 784 58 784 62)) Operator.Add (Expr.Constant (Const.int 2) 0 (Pos.mk 784 65 784 66)) (Pos.mk 784 58 784 66)) [(Comprehension.mk (Expr.Name (Str.ofString "size") (Pos.mk 784 71 784 75)) (Expr.Name (Str.ofString "before") (Pos.mk 784 79 784 85)) [] 0)] (Scope.mk ScopeKind.function [((Str.ofString ".0"), NameKind.local), ((Str.ofString "size"), NameKind.local)] false false []) (Pos.mk 784 57 784 86))] [] (Pos.mk 784 21 784 87)) (Pos.mk 784 8 784 87)), (Stmt.If (Expr.Name (Str.ofString "left") (Pos.mk 785 11 785 15)) [(Stmt.Return (some (Expr.List [] (Pos.mk 786 19 786 21))) (Pos.mk 786 12 786 21))] [] (Pos.mk 785 8 786 21)), (Stmt.Assign [(Expr.Tuple [(Expr.Name (Str.ofString "before") (Pos.mk 787 8 787 14)), (Expr.Name (Str.ofString "sizes") (Pos.mk 787 16 787 21))] 0 (Pos.mk 787 8 787 21))] (Expr.Tuple [(Expr.Name (Str.ofString "sizes") (Pos.mk 787 25 787 30)), (Expr.Name (Str.ofString "kept") (Pos.mk 787 32 787 36))] 0 (Pos.mk 787 24 787 37)) (Pos.mk 787 8 787 37))] [] (Pos.mk 782 4 787 37)), (Stmt.Return (some (Expr.Name (Str.ofString "sizes") (Pos.mk 788 11 788 16))) (Pos.mk 788 4 788 16))]) (Scope.mk ScopeKind.function [((Str.ofString "ends"), NameKind.local), ((Str.ofString "before"), NameKind.local), ((Str.ofString "sizes"), NameKind.local), ((Str.ofString "turn"), NameKind.local), ((Str.ofString "longer"), NameKind.local), ((Str.ofString "kept"), NameKind.local), ((Str.ofString "left"), NameKind.local), ((Str.ofString "range"), NameKind.globalImplicit), ((Str.ofString "unorderable_list_difference"), NameKind.globalImplicit)] false false [((Str.ofString "fast"), (Const.str (Str.ofString "ends"))), ((Str.ofString "fast"), (Const.str (Str.ofString "before"))), ((Str.ofString "fast"), (Const.str (Str.ofString "sizes"))), ((Str.ofString "fast"), (Const.str (Str.ofString "turn"))), ((Str.ofString "fast"), (Const.str (Str.ofString "size"))), ((Str.ofString "fast"), (Const.str (Str.ofString "more"))), ((Str.ofString "fast"), (Const.str (Str.ofString "longer"))), ((Str.ofString "fast"), (Const.str (Str.ofString "kept"))), ((Str.ofString "fast"), (Const.str (Str.ofString "left")))]) 3 [] Value.none Value.none Value.none (Value.str (Str.ofString "law_oc0215_01") 1268) none (Value.ref 799) Value.none 0)) #[])) ::
  (nat_lit 804, (Obj.mk (Value.type "code") none (Data.fields #[(Value.str (Str.ofString "law") 1327), (Value.str (Str.ofString "law") 1328), (Value.str (Str.ofString "/claim/cut.py") 1329), (Value.int 789 0), (Value.int 1 0), (Value.int 0 0), (Value.int 0 0), (Value.int 3 0), (Value.ref 801), (Value.bool true), (Value.int 318 0), (Value.ref 802), Value.none, Value.none, Value.none, (Value.ref 803), (Value.int 1330 0), (Value.int 789 0), (Value.str (Str.ofString "/claim/cut.py") 1331)]) #[])) ::
  (nat_lit 805, (Obj.mk (Value.type "function") none (Data.func (FuncData.mk (Str.ofString "law") (Str.ofString "law") (Arguments.mk [] [(Arg.mk (Str.ofString "script") none (Pos.mk 789 8 789 14))] none [] [] none []) (FuncBody.stmts [(Stmt.Assign [(Expr.Name (Str.ofString "cells") (Pos.mk 790 4 790 9))] (Expr.Subscript (Expr.BinOp (Expr.ListComp (Expr.BinOp (Expr.Call (Expr.Name (Str.ofString "int") (Pos.mk 790 14 790 17)) [(Expr.Name (Str.ofString "cell") (Pos.mk 790 18 790 22))] [] (Pos.mk 790 14 790 23)) Operator.Mod (Expr.BinOp (Expr.Constant (Const.int 10) 0 (Pos.mk 790 26 790 28)) Operator.Pow (Expr.Constant (Const.int 6) 0 (Pos.mk 790 32 790 33)) (Pos.mk 790 26 790 33)) (Pos.mk 790 14 790 33)) [(Comprehension.mk (Expr.Name (Str.ofString "cell") (Pos.mk 790 38 790 42)) (Expr.Subscript (Expr.Name (Str.ofString "script") (Pos.mk 790 46 790 52)) (Expr.Slice none (some (Expr.Constant (Const.int 3) 0 (Pos.mk 790 54 790 55))) none (Pos.mk 790 53 790 55)) (Pos.mk 790 46 790 56)) [] 0)] (Scope.mk ScopeKind.function [((Str.ofString ".0"), NameKind.local), ((Str.ofString "cell"), NameKind.local), ((Str.ofString "int"), NameKind.globalImplicit)] false false []) (Pos.mk 790 13 790 57)) Operator.Add (Expr.List [(Expr.Constant (Const.int 1) 0 (Pos.mk 790 61 790 62)), (Expr.Constant (Const.int 2) 0 (Pos.mk 790 64 790 65)), (Expr.Constant (Const.int 6) 0 (Pos.mk 790 67 790 68))] (Pos.mk 790 60 790 69)) (Pos.mk 790 13 790 69)) (Expr.Slice none (some (Expr.Constant (Const.int 3) 0 (Pos.mk 790 72 790 73))) none (Pos.mk 790 71 790 73)) (Pos.mk 790 12 790 74)) (Pos.mk 790 4 790 74)), (Stmt.Assign [(Expr.Name (Str.ofString "text") (Pos.mk 791 4 791 8))] (Expr.Call (Expr.Name (Str.ofString "_law_text") (Pos.mk 791 11 791 20)) [(Expr.Name (Str.ofString "cells") (Pos.mk 791 21 791 26))] [] (Pos.mk 791 11 791 27)) (Pos.mk 791 4 791 27)), (Stmt.Assign [(Expr.Name (Str.ofString "sent") (Pos.mk 792 4 792 8))] (Expr.Call (Expr.Name (Str.ofString "quotedata") (Pos.mk 792 11 792 20)) [(Expr.Name (Str.ofString "text") (Pos.mk 792 21 792 25))] [] (Pos.mk 792 11 792 26)) (Pos.mk 792 4 792 26)), (Stmt.Assign [(Expr.Name (Str.ofString "tokens") (Pos.mk 793 4 793 10))] (Expr.Call (Expr.Name (Str.ofString "_law_tokens") (Pos.mk 793 13 793 24)) [(Expr.Name (Str.ofString "sent") (Pos.mk 793 25 793 29))] [] (Pos.mk 793 13 793 30)) (Pos.mk 793 4 793 30)), (Stmt.Assign [(Expr.Name (Str.ofString "told") (Pos.mk 794 4 794 8))] (Expr.ListComp (Expr.Name (Str.ofString "back") (Pos.mk 794 12 794 16)) [(Comprehension.mk (Expr.Name (Str.ofString "back") (Pos.mk 794 21 794 25)) (Expr.Call (Expr.Name (Str.ofString "_law_texts") (Pos.mk 794 29 794 39)) [(Expr.Name (Str.ofString "tokens") (Pos.mk 794 40 794 46))] [] (Pos.mk 794 29 794 47)) [(Expr.Compare (Expr.Call (Expr.Name (Str.ofString "quotedata") (Pos.mk 794 51 794 60)) [(Expr.Name (Str.ofString "back") (Pos.mk 794 61 794 65))] [] (Pos.mk 794 51 794 66)) [CmpOp.Eq] [(Expr.Name (Str.ofString "sent") (Pos.mk 794 70 794 74))] (Pos.mk 794 51 794 74))] 0)] (Scope.mk ScopeKind.function [((Str.ofString ".0"), NameKind.local), ((Str.ofString "back"), NameKind.local), ((Str.ofString "quotedata"), NameKind.globalImplicit), ((Str.ofString "sent"), NameKind.free)] false false []) (Pos.mk 794 11 794 75)) (Pos.mk 794 4 794 75)), (Stmt.Assign [(Expr.Tuple [(Expr.Name (Str.ofString "sizes") (Pos.mk 795 4 795 9)), (Expr.Name (Str.ofString "count") (Pos.mk 795 11 795 16))] 0 (Pos.mk 795 4 795 16))] (Expr.Tuple [(Expr.List [(Expr.Constant (Const.int 0) 0 (Pos.mk 795 21 795 22))] (Pos.mk 795 20 795 23)), (Expr.Constant (Const.int 1) 0 (Pos.mk 795 25 795 26))] 0 (Pos.mk 795 19 795 27)) (Pos.mk 795 4 795 27)), (Stmt.For (Expr.Name (Str.ofString "token") (Pos.mk 796 8 796 13)) (Expr.Name (Str.ofString "tokens") (Pos.mk 796 17 796 23)) [(Stmt.If (Expr.Compare (Expr.Subscript (Expr.Name (Str.ofString "token") (Pos.mk 797 11 797 16)) (Expr.Constant (Const.int 0) 0 (Pos.mk 797 17 797 18)) (Pos.mk 797 11 797 19)) [CmpOp.In] [(Expr.Constant (Const.str (Str.ofString "\x0d\n")) 0 (Pos.mk 797 23 797 29))] (Pos.mk 797 11 797 29)) [(Stmt.Assign [(Expr.Name (Str.ofString "parts") (Pos.mk 798 12 798 17))] (Expr.Call (Expr.Name (Str.ofString "_law_sizes") (Pos.mk 798 20 798 30)) [(Expr.BinOp (Expr.Call (Expr.Name (Str.ofString "len") (Pos.mk 798 31 798 34)) [(Expr.Name (Str.ofString "token") (Pos.mk 798 35 798 40))] [] (Pos.mk 798 31 798 41)) Operator.FloorDiv (Expr.Constant (Const.int 2) 0 (Pos.mk 798 45 798 46)) (Pos.mk 798 31 798 46))] [] (Pos.mk 798 20 798 47)) (Pos.mk 798 12 798 47)), (Stmt.Assign [(Expr.Name (Str.ofString "count") (Pos.mk 799 12 799 17))] (Expr.BinOp (Expr.Name (Str.ofString "count") (Pos.mk 799 20 799 25)) Operator.Mult (Expr.Call (Expr.Name (Str.ofString "_law_second") (Pos.mk 799 28 799 39)) [(Expr.BinOp (Expr.Call (Expr.Name (Str.ofString "len") (Pos.mk 799 40 799 43)) [(Expr.Name (Str.ofString "token") (Pos.mk 799 44 799 49))] [] (Pos.mk 799 40 799 50)) Operator.FloorDiv (Expr.Constant (Const.int 2) 0 (Pos.mk 799 54 799 55)) (Pos.mk 799 40 799 55))] [] (Pos.mk 799 28 799 56)) (Pos.mk 799 20 799 56)) (Pos.mk 799 12 799 56))] [(Stmt.Assign [(Expr.Name (Str.ofString "parts") (Pos.mk 801 12 801 17))] (Expr.List [(Expr.Call (Expr.Name (Str.ofString "len") (Pos.mk 801 21 801 24)) [(Expr.Call (Expr.Name (Str.ofString "_law_word") (Pos.mk 801 25 801 34)) [(Expr.Name (Str.ofString "token") (Pos.mk 801 35 801 40))] [] (Pos.mk 801 25 801 41))] [] (Pos.mk 801 21 801 42))] (Pos.mk 801 20 801 43)) (Pos.mk 801 12 801 43))] (Pos.mk 797 8 801 43)), (Stmt.Assign [(Expr.Name (Str.ofString "sizes") (Pos.mk 802 8 802 13))] (Expr.ListComp (Expr.BinOp (Expr.Name (Str.ofString "size") (Pos.mk 802 17 802 21)) Operator.Add (Expr.Name (Str.ofString "part") (Pos.mk 802 24 802 28)) (Pos.mk 802 17 802 28)) [(Comprehension.mk (Expr.Name (Str.ofString "size") (Pos.mk 802 33 802 37)) (Expr.Name (Str.ofString "sizes") (Pos.mk 802 41 802 46)) [] 0), (Comprehension.mk (Expr.Name (Str.ofString "part") (Pos.mk 802 51 802 55)) (Expr.Name (Str.ofString "parts") (Pos.mk 802 59 802 64)) [] 0)] (Scope.mk ScopeKind.function [((Str.ofString ".0"), NameKind.local), ((Str.ofString "size"), NameKind.local), ((Str.ofString "part"), NameKind.local), ((Str.ofString "parts"), NameKind.free)] false false []) (Pos.mk 802 16 802 65)) (Pos.mk 802 8 802 65))] [] (Pos.mk 796 4 802 65)), (Stmt.If (Expr.Compare (Expr.Call (Expr.Attribute (Expr.Constant (Const.str (Str.ofString "")) 0 (Pos.mk 803 7 803 9)) (Str.ofString "join") (Pos.mk 803 7 803 14)) [(Expr.ListComp (Expr.Call (Expr.Name (Str.ofString "_law_sent") (Pos.mk 803 16 803 25)) [(Expr.Name (Str.ofString "token") (Pos.mk 803 26 803 31))] [] (Pos.mk 803 16 803 32)) [(Comprehension.mk (Expr.Name (Str.ofString "token") (Pos.mk 803 37 803 42)) (Expr.Name (Str.ofString "tokens") (Pos.mk 803 46 803 52)) [] 0)] (Scope.mk ScopeKind.function [((Str.ofString ".0"), NameKind.local), ((Str.ofString "token"), NameKind.local), ((Str.ofString "_law_sent"), NameKind.globalImplicit)] false false []) (Pos.mk 803 15 803 53))] [] (Pos.mk 803 7 803 54)) [CmpOp.NotEq] [(Expr.Name (Str.ofString "sent") (Pos.mk 803 58 803 62))] (Pos.mk 803 7 803 62)) [(Stmt.Return (some (Expr.Constant (Const.bool false) 0 (Pos.mk 804 15 804 20))) (Pos.mk 804 8 804 20))] [] (Pos.mk 803 4 804 20)), (Stmt.If (Expr.BoolOp BoolOp.Or [(Expr.Compare (Expr.Name (Str.ofString "text") (Pos.mk 805 7 805 11)) [CmpOp.NotIn] [(Expr.Name (Str.ofString "told") (Pos.mk 805 19 805 23))] (Pos.mk 805 7 805 23)), (Expr.Compare (Expr.Call (Expr.Name (Str.ofString "len") (Pos.mk 805 27 805 30)) [(Expr.Call (Expr.Name (Str.ofString "set") (Pos.mk 805 31 805 34)) [(Expr.Name (Str.ofString "told") (Pos.mk 805 35 805 39))] [] (Pos.mk 805 31 805 40))] [] (Pos.mk 805 27 805 41)) [CmpOp.NotEq] [(Expr.Name (Str.ofString "count") (Pos.mk 805 45 805 50))] (Pos.mk 805 27 805 50))] (Pos.mk 805 7 805 50)) [(Stmt.Return (some (Expr.Constant (Const.bool false) 0 (Pos.mk 806 15 806 20))) (Pos.mk 806 8 806 20))] [] (Pos.mk 805 4 806 20)), (Stmt.Return (some (Expr.Compare (Expr.Call (Expr.Name (Str.ofString "sorted") (Pos.mk 807 11 807 17)) [(Expr.Name (Str.ofString "sizes") (Pos.mk 807 18 807 23))] [] (Pos.mk 807 11 807 24)) [CmpOp.Eq] [(Expr.Call (Expr.Name (Str.ofString "sorted") (Pos.mk 807 28 807 34)) [(Expr.ListComp (Expr.Call (Expr.Name (Str.ofString "len") (Pos.mk 807 36 807 39)) [(Expr.Name (Str.ofString "back") (Pos.mk 807 40 807 44))] [] (Pos.mk 807 36 807 45)) [(Comprehension.mk (Expr.Name (Str.ofString "back") (Pos.mk 807 50 807 54)) (Expr.Name (Str.ofString "told") (Pos.mk 807 58 807 62)) [] 0)] (Scope.mk ScopeKind.function [((Str.ofString ".0"), NameKind.local), ((Str.ofString "back"), NameKind.local), ((Str.ofString "len"), NameKind.globalImplicit)] false false []) (Pos.mk 807 35 807 63))] [] (Pos.mk 807 28 807 64))] (Pos.mk 807 11 807 64))) (Pos.mk 807 4 807 64))]) (Scope.mk ScopeKind.function [((Str.ofString "script"), NameKind.local), ((Str.ofString "cells"), NameKind.local), ((Str.ofString "text"), NameKind.local), ((Str.ofString "sent"), NameKind.cell), ((Str.ofString "tokens"), NameKind.local), ((Str.ofString "told"), NameKind.local), ((Str.ofString "sizes"), NameKind.local), ((Str.ofString "count"), NameKind.local), ((Str.ofString "token"), NameKind.local), ((Str.ofString "parts"), NameKind.cell), ((Str.ofString "_law_text"), NameKind.globalImplicit), ((Str.ofString "quotedata"), NameKind.globalImplicit), ((Str.ofString "_law_tokens"), NameKind.globalImplicit), ((Str.ofString "_law_texts"), NameKind.globalImplicit), ((Str.ofString "_law_sizes"), NameKind.globalImplicit), ((Str.ofString "len"), NameKind.globalImplicit), ((Str.ofString "_law_second"), NameKind.globalImplicit), ((Str.ofString "_law_word"), NameKind.globalImplicit), ((Str.ofString "set"), NameKind.globalImplicit), ((Str.ofString "sorted"), NameKind.globalImplicit)] false false [((Str.ofString "fast"), (Const.str (Str.ofString "script"))), ((Str.ofString "fast"), (Const.str (Str.ofString "cell"))), ((Str.ofString "fast"), (Const.str (Str.ofString "cells"))), ((Str.ofString "fast"), (Const.str (Str.ofString "text"))), ((Str.ofString "fast"), (Const.str (Str.ofString "sent"))), ((Str.ofString "fast"), (Const.str (Str.ofString "tokens"))), ((Str.ofString "fast"), (Const.str (Str.ofString "back"))), ((Str.ofString "fast"), (Const.str (Str.ofString "told"))), ((Str.ofString "fast"), (Const.str (Str.ofString "sizes"))), ((Str.ofString "fast"), (Const.str (Str.ofString "count"))), ((Str.ofString "fast"), (Const.str (Str.ofString "token"))), ((Str.ofString "fast"), (Const.str (Str.ofString "parts"))), ((Str.ofString "fast"), (Const.str (Str.ofString "size"))), ((Str.ofString "fast"), (Const.str (Str.ofString "part")))]) 3 [] Value.none Value.none Value.none (Value.str (Str.ofString "law_oc0215_01") 1268) none (Value.ref 804) Value.none 0)) #[])) :: []
noncomputable def KA : List Addr := [2, 3, 48, 49, 53, 54, 60, 61, 74, 75, 84, 85, 101, 102, 104, 105, 106, 119, 120, 131, 132, 171, 361, 362, 372, 378, 379, 385, 386, 392, 393, 415, 423, 431, 439, 447, 548, 554, 555, 608, 609, 661, 667, 668, 674, 675, 676, 704, 705, 711, 712, 743, 744, 754, 755, 761, 762, 768, 769, 775, 776, 782, 783, 787, 788, 794, 795, 799, 800, 804, 805]
noncomputable def picked : List Nat → List Stmt
  | [] => []
  | i :: r => match stA i with
    | some x => x :: picked r
    | none => picked r
noncomputable def vw : Program := { PySem.Challenge.pw_oc0215_01 with main := { PySem.Challenge.pw_oc0215_01.main with body := picked [0, 1, 2, 4, 5, 6, 7, 9, 10, 11, 12, 13, 14, 15, 16, 18, 19, 20, 21, 22, 23, 25, 27, 29, 30, 31, 32, 33, 34, 35, 36] } }
noncomputable def lo : List Str := [o "_twin_re_1", o "_twin_re_2", o "UnsupportedOperation", o "IOBase", o "BufferedIOBase", o "TextIOBase", o "BytesIO", o "StringIO", o "shlex"]
noncomputable abbrev HK : Hook := kHook KH KA (fun _ => by kernel_rfl)
noncomputable abbrev RW : RowW := OpenRow.toRowW PySem.Challenge.rw_oc0215_01.row
noncomputable abbrev PW : Program := PySem.Challenge.rw_oc0215_01.row.prog
noncomputable def envE : Env := { scope := PW.main.scope, locals := mainNs, globals := mainNs, cells := [], code := .ref 36, frame := some 37 }
noncomputable def BS : List Stmt := behindTheImports PW
noncomputable def cE : Code := .body BS envE
noncomputable def p0 : Pos := ⟨0, 0, 0, 0⟩
noncomputable def pL : Pos := ⟨789, 0, 807, 64⟩
noncomputable abbrev BB : List Frame := [topFrame p0]
end MineH
namespace MineH
theorem hd_open (w : World) : (fencedOpening treeTable PW w 12000).map (fun s => (s.heap, s.gens, s.drawn, s.toks)) = some (H0 w.params, gs0, dr, 318) := by
  unfold fencedOpening
  rw [PySem.W.Fast.te14364793385576792824, PySem.W.Fast.te10274390034422433532, PySem.W.Fast.te1435165496053646825, PySem.W.Fast.te14289696077712309145]
  kernel_rfl
theorem hd_size (w : World) : ((H0 w.params).isNs mainGlobals && gs0.size == 0, (H0 w.params).objs.size, (H0 w.params).nsMap mainGlobals "__annotations__") = (true, 34, ann) := by kernel_rfl
theorem hd_pre (w : World) (os : OsState) : topGo treeTable PW w 34 ann 12 ⟨H0 w.params, gs0, dr, 318, os⟩ (topStub PW) = some (⟨Hb w.params, gs0, dr, 324, os⟩, Thread.mk (denote treeTable cE) cE p0 BB) := by
  rw [PySem.W.Fast.te14364793385576792824, PySem.W.Fast.te15667345088766844465, PySem.W.Fast.te11892475500146522536]
  kernel_rfl
theorem hd_block (w : World) (os : OsState) : segRun treeTable PW w 34 ann 1 1 ⟨Hb w.params, gs0, dr, 324, os⟩ (blockOf BS envE cE p0 BB) = some (.next, SharedT.abs ⟨tre (Lb w.params), 38, lif, gs0, dr, 324, os⟩, cE, p0) := by
  rw [PySem.W.Fast.te14364793385576792824, PySem.W.Fast.te14374325043358763698]
  kernel_rfl
noncomputable def B1 : List Stmt := BS.take 13
noncomputable def B2 : List Stmt := (BS.drop 13).take 1
noncomputable def B3 : List Stmt := (BS.drop 14).take 1
noncomputable def B4 : List Stmt := BS.drop 15
noncomputable def pc : Pos := ⟨36, 0, 37, 21⟩
noncomputable def pd : Pos := ⟨38, 0, 207, 17⟩
noncomputable def pe : Pos := ⟨208, 0, 412, 17⟩
theorem BS_parts : BS = B1 ++ (B2 ++ (B3 ++ (B4 ++ []))) := by
  unfold B1 B2 B3 B4
  rw [List.append_nil, show BS.drop 15 = (BS.drop 14).drop 1 by rw [List.drop_drop], List.take_append_drop, show BS.drop 14 = (BS.drop 13).drop 1 by rw [List.drop_drop], List.take_append_drop, List.take_append_drop]
theorem hd_seg1 (w : World) (os : OsState) : segRunT treeTable PW w 34 ann 1 1183 ⟨tre (Lb w.params), 38, lif, gs0, dr, 324, os⟩ (piecesOf B1 envE cE p0 BB) = some (.next, ⟨tre (Lc w.params), 135, lif, gs0, dr, 508, os⟩, cE, pc) := by
  rw [PySem.W.Fast.te14364793385576792824, PySem.W.Fast.te10110043849684766642]
  kernel_rfl
theorem hd_seg2 (w : World) (os : OsState) : segRunT treeTable PW w 34 ann 1 1278 ⟨tre (Lc w.params), 135, lif, gs0, dr, 508, os⟩ (piecesOf B2 envE cE pc BB) = some (.next, ⟨tre (Ld w.params), 365, lif, gs0, dr, 770, os⟩, cE, pd) := by
  rw [PySem.W.Fast.te14364793385576792824, PySem.W.Fast.te10110043849684766642]
  kernel_rfl
theorem hd_seg3 (w : World) (os : OsState) : segRunT treeTable PW w 34 ann 1 1578 ⟨tre (Ld w.params), 365, lif, gs0, dr, 770, os⟩ (piecesOf B3 envE cE pd BB) = some (.next, ⟨tre (Le w.params), 612, lif, gs0, dr, 1057, os⟩, cE, pe) := by
  rw [PySem.W.Fast.te14364793385576792824, PySem.W.Fast.te10110043849684766642]
  kernel_rfl
theorem hd_seg4 (w : World) (os : OsState) : segRunT treeTable PW w 34 ann 1 1122 ⟨tre (Le w.params), 612, lif, gs0, dr, 1057, os⟩ (piecesOf B4 envE cE pe BB) = some (.next, ⟨tre (L1 w.params), 806, lif, gs0, dr, 1333, os⟩, cE, pL) := by
  rw [PySem.W.Fast.te14364793385576792824, PySem.W.Fast.te10110043849684766642]
  kernel_rfl
theorem hd_fin (w : World) (os : OsState) : topRun treeTable PW w 34 ann 2 (SharedT.abs ⟨tre (L1 w.params), 806, lif, gs0, dr, 1333, os⟩) ⟨doneF .next, cE, pL, BB⟩ = some ⟨H1 w.params, gs0, dr, 1333, os⟩ := by
  rw [PySem.W.Fast.te14364793385576792824, PySem.W.Fast.te14082659384304107361]
  kernel_rfl
theorem hd_run (w : World) (os : OsState) : topRun treeTable PW w 34 ann (12 + (1 + (1183 + (1278 + (1578 + (1122 + 2)))))) ⟨H0 w.params, gs0, dr, 318, os⟩ (topStub PW) = some ⟨H1 w.params, gs0, dr, 1333, os⟩ := by
  refine go_top (hd_pre w os) (piece_block (hd_block w os) ?_)
  rw [BS_parts]
  exact piece_app (segRun_of (hd_seg1 w os)) (piece_app (segRun_of (hd_seg2 w os)) (piece_app (segRun_of (hd_seg3 w os)) (piece_app (segRun_of (hd_seg4 w os)) (hd_fin w os))))
theorem lk_a (w : World) (os : OsState) : (staticsOk (importedModules PW.main.body) (H0 w.params) (H1 w.params) && namesBound PW (H1 w.params) && gensDone (⟨H1 w.params, gs0, dr, 1333, os⟩ : Shared) && laidKept (H0 w.params) (H1 w.params)) = true := by
  rw [PySem.W.Fast.te5923862056798008813]
  kernel_rfl
theorem lk_seen (w : World) (os : OsState) : seen ((recsOf vw).map (·.name)) (ownsOf vw) [] { (⟨H1 w.params, gs0, dr, 1333, os⟩ : Shared) with gens := #[] } = expectedOf vw := by
  rw [PySem.W.Fast.te5160383126252970620, PySem.W.Fast.te3399658132070893891, PySem.W.Fast.te5991557255702980513]
  kernel_rfl
theorem lk_blt (w : World) (os : OsState) : ((⟨H1 w.params, gs0, dr, 1333, os⟩ : Shared)).heap.bltView = bltViewBooted := by
  kernel_rfl
theorem lk_keys (w : World) (os : OsState) : (((⟨H1 w.params, gs0, dr, 1333, os⟩ : Shared)).heap.keysOk (looseW vw lo) ((recsOf vw).map (·.name)) ((litsOf vw).map (·.1)) ((clssOf vw (looseW vw lo)).map (·.name)) && ((⟨H1 w.params, gs0, dr, 1333, os⟩ : Shared)).heap.accountedOkI (importedModules PW.main.body) && ((⟨H1 w.params, gs0, dr, 1333, os⟩ : Shared)).heap.isNs mainGlobals && ((⟨H1 w.params, gs0, dr, 1333, os⟩ : Shared)).heap.isNs builtinsNs && tablesOk vw ((⟨H1 w.params, gs0, dr, 1333, os⟩ : Shared)).heap && (xlAt vw [] (⟨H1 w.params, gs0, dr, 1333, os⟩ : Shared) && recOk (RowW.records RW) (⟨H1 w.params, gs0, dr, 1333, os⟩ : Shared)) && (if true then ((⟨H1 w.params, gs0, dr, 1333, os⟩ : Shared)).gens.size == 0 else !leftWithCleanup ((⟨H1 w.params, gs0, dr, 1333, os⟩ : Shared)).gens)) = true := by
  rw [PySem.W.Fast.te10880121769531294198, PySem.W.Fast.te821141287760084731, PySem.W.Fast.te3399658132070893891, PySem.W.Fast.te7409074990110511671, PySem.W.Fast.te13664370479719496447, PySem.W.Fast.te14722251495701143533, PySem.W.Fast.te5923862056798008813, PySem.W.Fast.te10994771534591457954]
  kernel_rfl
theorem lk_tabs (w : World) (os : OsState) : tabsOk vw (⟨H1 w.params, gs0, dr, 1333, os⟩ : Shared) = true := by
  rw [PySem.W.Fast.te479339242167458305]
  kernel_rfl
theorem lk_pin (w : World) (os : OsState) : pinSeenD vw (drecsOf vw) (⟨H1 w.params, gs0, dr, 1333, os⟩ : Shared) = pinGoodD (drecsOf vw) := by
  rw [PySem.W.Fast.te16090120013241838585, PySem.W.Fast.te3247288618530077131]
  kernel_rfl
theorem lk_pe (w : World) (os : OsState) : plainSeenE vw (looseW vw lo) (⟨H1 w.params, gs0, dr, 1333, os⟩ : Shared) = plainGoodE vw (looseW vw lo) := by
  rw [PySem.W.Fast.te2386780881361962483, PySem.W.Fast.te821141287760084731]
  kernel_rfl
theorem lk_pd (w : World) (os : OsState) : plainSeenD vw lo (⟨H1 w.params, gs0, dr, 1333, os⟩ : Shared) = plainGoodD vw lo := by
  rw [PySem.W.Fast.te11698064438423848299]
  kernel_rfl
theorem lk_wide (w : World) (os : OsState) : wideSeen vw (⟨H1 w.params, gs0, dr, 1333, os⟩ : Shared) = wideGood vw := by
  rw [PySem.W.Fast.te7317090234206586261]
  kernel_rfl
theorem lk_cls (w : World) (os : OsState) : clsSeenW vw lo (⟨H1 w.params, gs0, dr, 1333, os⟩ : Shared) = clsGoodW vw lo := by
  rw [PySem.W.Fast.te7369524293546568484]
  kernel_rfl
theorem lk_obs (w : World) (os : OsState) : Hook.obs HK (⟨H1 w.params, gs0, dr, 1333, os⟩ : Shared) = Hook.val HK w := by
  kernel_rfl
theorem hd_left : LeftO PW vw lo (fun s => xlAt vw [] s && recOk (RowW.records RW) s) (Hook.obs HK) (Hook.val HK) 12000 :=
  LeftO.of_pieces (H₀ := H0) (H₁ := H1) hd_open hd_size hd_run (by decide) fun w => funext fun os => by
    refine looks_pair (lk_a w os) (looks_pair ?_ (lk_obs w os))
    exact looks_pair (lk_seen w os) (looks_pair (lk_blt w os) (looks_pair (lk_keys w os) (looks_pair (lk_tabs w os) (looks_pair (lk_pin w os) (looks_pair (lk_pe w os) (looks_pair (lk_pd w os) (looks_pair (lk_wide w os) (lk_cls w os))))))))
end MineH
namespace MineH
theorem said : PySem.Challenge.rw_oc0215_01.wellSaid = true := by
  rw [PySem.W.Fast.te9446332074065402090]
  kernel_rfl
noncomputable def lawD : DefRec := ⟨o "law", aA 36, aB 36, aS 36, ⟨789, 0, 807, 64⟩⟩
theorem hd_def : defOf vw (o "law") = some (lawD, []) := by kernel_rfl
theorem hd_two (walk : WalkO vw lo (XL vw []) (Hook.says HK) RW lawD [] fun f vs => PySem.call f vs) : PySem.Challenge.rw_oc0215_01.Holds := by
  refine holds_law said fun h => ?_
  refine holds_open (q := vw) (loose := lo) (Xt := fun s => xlAt vw [] s && recOk (RowW.records RW) s) (XP := XL vw []) (Yf := Hook.obs HK) (Ya := Hook.val HK) (YP := Hook.says HK) (N := 12000) (d := lawD) (kwd := []) hd_left (Hook.of HK) (Hook.keeps HK) (fun s e => xl_of s (Bool.and_eq_true_iff.mp e).1) XL.keeps hd_def ?p ?k (fun s e => recFacts_of (Bool.and_eq_true_iff.mp e).2) ?wr h ?ok ?bare ?hw walk
  case p => kernel_rfl
  case k => kernel_rfl
  case wr => kernel_rfl
  case ok => decide +kernel
  case bare => exact ⟨rfl, rfl, rfl, rfl, rfl, by decide +kernel⟩
  case hw => w_witness2
end MineH
namespace Mine
abbrev P0 : Program := PySem.Challenge.rw_oc0215_01.row.prog
abbrev Ret := Heap → Addr → (Str → Option Value) → Shared → (Value → Shared → Prop) → Prop
/-- what a call of the def at f gives back, for every caller -/
abbrev MyCl (w : World) (f : Addr) (room : Nat) (news : List (Addr × Obj)) (pre : Prop) (vs : List Value) (R : Ret) : Prop :=
  ∀ (loose : List Str) (mean : ExcName → Option Value) (mg mb : Str → Option Value) (dp un : Nat) (gd : Option (List Code)) (cn : Str) (cs : Scope) (a : Addr) (ccd : Value) (cl : List (Str × Addr)) (outer : List Env) (A₀ : Around) (base h₀ : Heap) (L : Addr) (m : Str → Option Value) (s : Shared) (Q E : Value → Shared → Prop),
    Below A₀ base outer h₀ → Fr h₀ L s.heap m → (MineH.KH w.params).In h₀ → News h₀ L s.heap news → Top MineH.vw loose mean mg mb h₀ → cs.kind = .function →
    pre → dp + room < recursionLimit → un + 16 * room < cLine → R h₀ L m s Q →
      wpAny (model PySem.Challenge.rw_oc0215_01.row.prog w) (ktrTop dp un gd cn cs L a ccd cl outer) (PySem.call (.ref f) vs) Q E s
abbrev rStr (news : List (Addr × Obj)) (x : Str) : Ret := fun h₀ L m s Q => ∀ (t : Tok) (h' : Heap) (tk' : Nat), Fr h₀ L h' m → News h₀ L h' news → Q (.str x t) { s with heap := h', toks := tk' }
abbrev rInt (news : List (Addr × Obj)) (x : Int) : Ret := fun h₀ L m s Q => ∀ (t : Tok) (h' : Heap) (tk' : Nat), Fr h₀ L h' m → News h₀ L h' news → Q (.int x t) { s with heap := h', toks := tk' }
end Mine
namespace Mine
/-- room that is left, by a smaller number -/
theorem rm {dp a b R : Nat} (h : dp + a < R) (hb : b ≤ a) : dp + b < R := Nat.lt_of_le_of_lt (Nat.add_le_add_left hb dp) h
section
variable {M : Model} {A : Around} {E : Value → Shared → Prop} {h : Heap} {gn : Array GenState} {dr : Drawn} {os : OsState} {X : Nat}
/-- the count of tokens made is forgotten at a statement -/
theorem gen_tk {α : Type} {t : Sem α} {Q : α → Shared → Prop} (H : ∀ tk, wpAny M A t Q E ⟨h, gn, dr, tk, os⟩) : wpAny M A t Q E ⟨h, gn, dr, X + 1, os⟩ := H _
theorem gen_tk' {α : Type} {t : Sem α} {Q : α → Shared → Prop} (H : ∀ tk, wpAny M A t Q E ⟨h, gn, dr, tk, os⟩) : wpAny M A t Q E ⟨h, gn, dr, X, os⟩ := H _
/-- what lies around gets a name -/
theorem let_A {A : Around} {α : Type} {t : Sem α} {Q : α → Shared → Prop} {s : Shared} (H : let A1 := A; wpAny M A1 t Q E s) : wpAny M A t Q E s := H
variable {k : Nat} {pos : Pos} {env : Env} {Q : Value → Shared → Prop}
theorem const_str {x : Str} (H : ∀ t tk, Q (.str x t) ⟨h, gn, dr, tk, os⟩) : wpAny M A (eval (.Constant (.str x) k pos) env) Q E ⟨h, gn, dr, X, os⟩ := wpAny_Constant_str (s := ⟨h, gn, dr, X, os⟩) (H _ _)
theorem const_int {i : Int} (H : ∀ t tk, Q (.int i t) ⟨h, gn, dr, tk, os⟩) : wpAny M A (eval (.Constant (.int i) k pos) env) Q E ⟨h, gn, dr, X, os⟩ := wpAny_Constant_int (s := ⟨h, gn, dr, X, os⟩) (H _ _)
end
end Mine
open PySem PySem.Sre
namespace Mine
theorem runFor_done {m : Sre.M} (h : m.outcome.isSome = true) : ∀ n, Sre.M.runFor n m = m
  | 0 => rfl
  | n + 1 => by rw [Sre.M.runFor, if_pos h]
theorem runFor_add (a : Nat) : ∀ (b : Nat) (m : Sre.M), Sre.M.runFor (a + b) m = Sre.M.runFor b (Sre.M.runFor a m) := by
  induction a with
  | zero => intro b m; rw [Nat.zero_add]; rfl
  | succ a ih =>
    intro b m
    rw [Nat.succ_add, Sre.M.runFor, Sre.M.runFor]
    by_cases h : m.outcome.isSome = true
    · rw [if_pos h, if_pos h, runFor_done h]
    · rw [if_neg h, if_neg h, ih]
/-- m comes to m' in n steps or fewer -/
def Goes (n : Nat) (m m' : Sre.M) : Prop := ∃ k, k ≤ n ∧ Sre.M.runFor k m = m'
theorem Goes.mono {n n' : Nat} {m m' : Sre.M} (h : n ≤ n') (g : Goes n m m') : Goes n' m m' := by
  obtain ⟨k, hk, hg⟩ := g
  exact ⟨k, by first | lia | omega, hg⟩
theorem Goes.trans {a b : Nat} {m m₁ m' : Sre.M} (g : Goes a m m₁) (g' : Goes b m₁ m') : Goes (a + b) m m' := by
  obtain ⟨k, hk, rfl⟩ := g
  obtain ⟨k', hk', rfl⟩ := g'
  exact ⟨k + k', by first | lia | omega, runFor_add _ _ _⟩
abbrev code2 : Array Nat := #[14, 9, 4, 1, 2, 16, 10, 16, 13, 0, 7, 7, 16, 13, 16, 10, 15, 18, 5, 16, 10, 15, 13, 11, 16, 13, 5, 5, 0, 16, 10, 1, 15, 2, 0, 1]
abbrev code1 : Array Nat := #[14, 4, 0, 1, 1, 6, 1, 16, 46, 1]
structure Found (m : Sre.M) (s e : Nat) : Prop where
  out : m.outcome = some .matched
  start : m.start = s
  handed : m.handed = e
section
variable (text : Array Nat) (lim s ls st ps hd : Nat) (seen : Sre.Seen) (mk : Array (Option Nat)) (first om : Bool) (lm li : Int)
abbrev m2 : Sre.M := { code := code2, text, lim, start := st, lastStart := ls, pc := 10, pos := ps, handed := hd, outermost := om, marks := mk, lastmark := lm, lastindex := li, seen }
def frS (s : Nat) (first : Bool) : Sre.Frame := { wait := .nextStart, pc := 10, pos := s, outermost := first }
def frB (alt s : Nat) (first : Bool) : Sre.Frame := { wait := .nextBranch, pc := alt, pos := s, outermost := first, kept := { lastmark := -1, lastindex := -1, whole := false, marks := #[] } }
abbrev mB (alt : Nat) (seen : Sre.Seen) (hd : Nat) : Sre.M := { code := code2, text, lim, start := s, lastStart := ls, pc := alt + 1, pos := s, handed := hd, outermost := first, marks := mk, lastmark := -1, lastindex := -1, frames := [frB alt s first, frS s first], weight := 2, seen }
theorem b_start : Goes 1 ((m2 text lim ls st ps hd seen mk om lm li).attemptAt s first) (mB text lim s ls mk first 11 (seen.add 7) s) := by
  refine ⟨1, by first | lia | omega, ?_⟩
  simp [Sre.M.attemptAt, Sre.M.attempt, Sre.M.runFor, Sre.M.step, Sre.M.exec, Sre.M.word, Sre.ops, Sre.M.alternative, Sre.M.frame, Sre.M.keep, frS, frB]
theorem b_hit1 (h1 : s + 1 < lim) (c0 : text.getD s 0 = 13) (c1 : text.getD (s + 1) 0 = 10) : ∃ m', Goes 7 (mB text lim s ls mk first 11 seen hd) m' ∧ Found m' s (s + 2) := by
  have hs : ¬ s ≥ lim := by first | lia | omega
  have hs1 : ¬ s + 1 ≥ lim := by first | lia | omega
  refine' ⟨_, ⟨7, by first | lia | omega, ?b⟩, ?c⟩
  case b => (simp [Sre.M.runFor, Sre.M.step, Sre.M.exec, Sre.M.word, Sre.ops, Sre.accepts, Sre.itemWidth, Sre.M.say, Sre.M.resume, frS, frB, hs, hs1, c0, c1]; try exact rfl)
  case c => exact ⟨rfl, rfl, rfl⟩
theorem b_zero (h1 : s < lim) (c0 : text.getD s 0 = 10) : Goes 2 (mB text lim s ls mk first 11 seen hd) (mB text lim s ls mk first 18 (seen.add 16) s) := by
  have hs : ¬ s ≥ lim := by first | lia | omega
  refine ⟨2, by first | lia | omega, ?_⟩
  simp [Sre.M.attempt, Sre.M.runFor, Sre.M.step, Sre.M.exec, Sre.M.word, Sre.ops, Sre.M.alternative, Sre.M.frame, Sre.accepts, Sre.itemWidth, Sre.M.say, Sre.M.resume, Sre.M.putBack, frS, frB, hs, c0]
theorem b_hit2 (h1 : s < lim) (c0 : text.getD s 0 = 10) : ∃ m', Goes 6 (mB text lim s ls mk first 18 seen hd) m' ∧ Found m' s (s + 1) := by
  have hs : ¬ s ≥ lim := by first | lia | omega
  refine' ⟨_, ⟨6, by first | lia | omega, ?b⟩, ?c⟩
  case b => (simp [Sre.M.runFor, Sre.M.step, Sre.M.exec, Sre.M.word, Sre.ops, Sre.accepts, Sre.itemWidth, Sre.M.say, Sre.M.resume, frS, frB, hs, c0]; try exact rfl)
  case c => exact ⟨rfl, rfl, rfl⟩
theorem found2_crlf (h1 : s + 1 < lim) (c0 : text.getD s 0 = 13) (c1 : text.getD (s + 1) 0 = 10) :
    ∃ m', Goes 30 ((m2 text lim ls st ps hd seen mk om lm li).attemptAt s first) m' ∧ Found m' s (s + 2) := by
  obtain ⟨m', g, f⟩ := b_hit1 text lim s ls s (seen.add 7) mk first h1 c0 c1
  exact ⟨m', ((b_start text lim s ls st ps hd seen mk first om lm li).trans g).mono (by first | lia | omega), f⟩
theorem found2_lf (h1 : s < lim) (c0 : text.getD s 0 = 10) :
    ∃ m', Goes 30 ((m2 text lim ls st ps hd seen mk om lm li).attemptAt s first) m' ∧ Found m' s (s + 1) := by
  obtain ⟨m', g, f⟩ := b_hit2 text lim s ls s ((seen.add 7).add 16) mk first h1 c0
  exact ⟨m', ((b_start text lim s ls st ps hd seen mk first om lm li).trans ((b_zero text lim s ls s _ mk first h1 c0).trans g)).mono (by first | lia | omega), f⟩
theorem b_one (h1 : s < lim) (c0 : text.getD s 0 = 13) (c1 : s + 1 ≥ lim ∨ (s + 1 < lim ∧ text.getD (s + 1) 0 ≠ 10)) : Goes 3 (mB text lim s ls mk first 11 seen hd) (mB text lim s ls mk first 18 ((seen.add 16).add 16) s) := by
  have hs : ¬ s ≥ lim := by first | lia | omega
  refine ⟨3, by first | lia | omega, ?_⟩
  rcases c1 with hs1 | ⟨hs1, c1⟩
  · simp [Sre.M.attempt, Sre.M.runFor, Sre.M.step, Sre.M.exec, Sre.M.word, Sre.ops, Sre.M.alternative, Sre.M.frame, Sre.accepts, Sre.itemWidth, Sre.M.say, Sre.M.resume, Sre.M.putBack, frS, frB, hs, hs1, c0]
  · have hs1 : ¬ s + 1 ≥ lim := by first | lia | omega
    have c2 : (text[s + 1]?.getD 0 == 10) = false := by simpa using c1
    simp [Sre.M.attempt, Sre.M.runFor, Sre.M.step, Sre.M.exec, Sre.M.word, Sre.ops, Sre.M.alternative, Sre.M.frame, Sre.accepts, Sre.itemWidth, Sre.M.say, Sre.M.resume, Sre.M.putBack, frS, frB, hs, hs1, c0, c2]
theorem b_two (h1 : s < lim) (c0 : text.getD s 0 = 13) : Goes 2 (mB text lim s ls mk first 18 seen hd) (mB text lim s ls mk first 23 (seen.add 16) s) := by
  have hs : ¬ s ≥ lim := by first | lia | omega
  refine ⟨2, by first | lia | omega, ?_⟩
  simp [Sre.M.attempt, Sre.M.runFor, Sre.M.step, Sre.M.exec, Sre.M.word, Sre.ops, Sre.M.alternative, Sre.M.frame, Sre.accepts, Sre.itemWidth, Sre.M.say, Sre.M.resume, Sre.M.putBack, frS, frB, hs, c0]
theorem b_three (h1 : s < lim) (c0 : text.getD s 0 = 13) (c1 : s + 1 ≥ lim ∨ (s + 1 < lim ∧ text.getD (s + 1) 0 ≠ 10)) : ∃ m', Goes 9 (mB text lim s ls mk first 23 seen hd) m' ∧ Found m' s (s + 1) := by
  have hs : ¬ s ≥ lim := by first | lia | omega
  rcases c1 with hs1 | ⟨hs1, c1⟩
  · refine' ⟨_, ⟨9, by first | lia | omega, ?b⟩, ?c⟩
    case b => (simp [Sre.M.attempt, Sre.M.runFor, Sre.M.step, Sre.M.exec, Sre.M.word, Sre.ops, Sre.M.alternative, Sre.M.frame, Sre.M.keep, Sre.accepts, Sre.itemWidth, Sre.M.say, Sre.M.resume, Sre.M.putBack, frS, frB, hs, hs1, c0]; try exact rfl)
    case c => exact ⟨rfl, rfl, rfl⟩
  · have hs1 : ¬ s + 1 ≥ lim := by first | lia | omega
    have c2 : (text[s + 1]?.getD 0 == 10) = false := by simpa using c1
    refine' ⟨_, ⟨9, by first | lia | omega, ?b⟩, ?c⟩
    case b => (simp [Sre.M.attempt, Sre.M.runFor, Sre.M.step, Sre.M.exec, Sre.M.word, Sre.ops, Sre.M.alternative, Sre.M.frame, Sre.M.keep, Sre.accepts, Sre.itemWidth, Sre.M.say, Sre.M.resume, Sre.M.putBack, frS, frB, hs, hs1, c0, c2]; try exact rfl)
    case c => exact ⟨rfl, rfl, rfl⟩
theorem found2_cr (h1 : s < lim) (c0 : text.getD s 0 = 13) (c1 : s + 1 ≥ lim ∨ (s + 1 < lim ∧ text.getD (s + 1) 0 ≠ 10)) :
    ∃ m', Goes 30 ((m2 text lim ls st ps hd seen mk om lm li).attemptAt s first) m' ∧ Found m' s (s + 1) := by
  obtain ⟨m', g, f⟩ := b_three text lim s ls s (((((seen.add 7).add 16).add 16)).add 16) mk first h1 c0 c1
  exact ⟨m', (((b_start text lim s ls st ps hd seen mk first om lm li).trans (b_one text lim s ls s _ mk first h1 c0 c1)).trans ((b_two text lim s ls s _ mk first h1 c0).trans g)).mono (by first | lia | omega), f⟩
end
/-- a code point that ends a row -/
def isEnd (c : Nat) : Bool := c == 10 || c == 13
theorem inSet2 (c : Nat) (seen : Sre.Seen) : ∃ seen', Sre.inSet code2 c code2.size 5 true seen = .ok (isEnd c, seen') := by
  by_cases h : c = 10
  · subst h; exact ⟨_, rfl⟩
  · by_cases h' : c = 13
    · subst h'; exact ⟨_, rfl⟩
    · refine ⟨((seen.add 16).add 16).add 0, ?_⟩
      simp [Sre.inSet, Sre.ops, h, h', isEnd]
theorem admitted_none {m : Sre.M} (hc : m.code = code2) : ∀ (fuel s : Nat) (seen : Sre.Seen), (∀ i, s ≤ i → i < m.lim → isEnd (m.text.getD i 0) = false) → ∃ seen', m.admitted fuel s seen = .ok (none, seen')
  | 0, s, seen, _ => ⟨_, rfl⟩
  | fuel + 1, s, seen, h => by
    unfold Sre.M.admitted
    by_cases hs : s ≥ m.lim
    · rw [if_pos hs]; exact ⟨_, rfl⟩
    · rw [if_neg hs, hc]
      obtain ⟨seen', e⟩ := inSet2 (m.text.getD s 0) seen
      rw [e, h s (Nat.le_refl _) (by first | lia | omega)]
      exact admitted_none hc fuel (s + 1) seen' fun i h1 h2 => h i (by first | lia | omega) h2
theorem admitted_some {m : Sre.M} (hc : m.code = code2) {e : Nat} (he : e < m.lim) (hq : isEnd (m.text.getD e 0) = true) : ∀ (fuel s : Nat) (seen : Sre.Seen), s ≤ e → e < s + fuel → (∀ i, s ≤ i → i < e → isEnd (m.text.getD i 0) = false) →
    ∃ seen', m.admitted fuel s seen = .ok (some e, seen')
  | 0, s, seen, h1, h2, _ => by first | lia | omega
  | fuel + 1, s, seen, h1, h2, h => by
    unfold Sre.M.admitted
    rw [if_neg (by first | lia | omega), hc]
    obtain ⟨seen', e'⟩ := inSet2 (m.text.getD s 0) seen
    rw [e']
    by_cases hs : s = e
    · subst hs
      rw [hq]; exact ⟨_, rfl⟩
    · rw [h s (Nat.le_refl _) (by first | lia | omega)]
      exact admitted_some hc he hq fuel (s + 1) seen' (by first | lia | omega) (by first | lia | omega) fun i h3 h4 => h i (by first | lia | omega) h4
theorem forSearch2 (text : Array Nat) (p lim : Nat) : Sre.forSearch code2 text 0 p lim false = if (decide (p > lim) || decide (lim - p < 1)) = true then ({ code := code2, text, lim, start := p, pc := 10, pos := p, handed := p, marks := #[], seen := ({} : Sre.Seen).add 14 } : Sre.M).say false
    else ({ code := code2, text, lim, start := p, lastStart := lim, pc := 10, pos := p, handed := p, marks := #[], seen := ({} : Sre.Seen).add 14 } : Sre.M).attemptFrom p true := rfl
theorem search2_some (text : Array Nat) {lim p s e : Nat} (hp : p ≤ s) (hs : s < lim) (hf : ∀ i, p ≤ i → i < s → isEnd (text.getD i 0) = false)
    (he : (text.getD s 0 = 13 ∧ s + 1 < lim ∧ text.getD (s + 1) 0 = 10 ∧ e = s + 2) ∨ (text.getD s 0 = 10 ∧ e = s + 1) ∨ (text.getD s 0 = 13 ∧ (s + 1 ≥ lim ∨ (s + 1 < lim ∧ text.getD (s + 1) 0 ≠ 10)) ∧ e = s + 1)) :
    ∃ m', Goes 30 (Sre.forSearch code2 text 0 p lim false) m' ∧ Found m' s e := by
  have hq : isEnd (text.getD s 0) = true := by rcases he with ⟨h, _⟩ | ⟨h, _⟩ | ⟨h, _⟩ <;> rw [h] <;> rfl
  have hl : ¬ (p > lim ∨ lim - p < 1) := by first | lia | omega
  have key : ∃ seen', Sre.forSearch code2 text 0 p lim false = (m2 text lim lim p p p seen' #[] true (-1) (-1)).attemptAt s true := by
    rw [forSearch2, if_neg (by simpa using hl)]
    unfold Sre.M.attemptFrom
    rw [if_neg (by simp [Sre.M.hasFirstSet, Sre.ops])]
    obtain ⟨seen', e'⟩ := admitted_some (m := { ({ code := code2, text, lim, start := p, pc := 10, pos := p, handed := p, marks := #[], seen := ({} : Sre.Seen).add 14 } : Sre.M) with lastStart := lim }) rfl (e := s) hs hq (lim + 1 - p) p (({} : Sre.Seen).add 14) hp (by first | lia | omega) hf
    refine ⟨seen', ?_⟩
    dsimp only at e' ⊢
    rw [e']
  obtain ⟨seen', key⟩ := key
  rw [key]
  rcases he with ⟨h1, h2, h3, rfl⟩ | ⟨h1, rfl⟩ | ⟨h1, h2, rfl⟩
  · exact found2_crlf _ _ _ _ _ _ _ _ _ _ _ _ _ h2 h1 h3
  · exact found2_lf _ _ _ _ _ _ _ _ _ _ _ _ _ hs h1
  · exact found2_cr _ _ _ _ _ _ _ _ _ _ _ _ _ hs h1 h2
theorem search2_none (text : Array Nat) {lim p : Nat} (hf : ∀ i, p ≤ i → i < lim → isEnd (text.getD i 0) = false) :
    ∃ m', Goes 30 (Sre.forSearch code2 text 0 p lim false) m' ∧ m'.outcome = some .failed := by
  have key : ∃ seen', Sre.forSearch code2 text 0 p lim false = ({ code := code2, text, lim, start := p, pc := 10, pos := p, handed := p, marks := #[], seen := seen' } : Sre.M).say false ∨ Sre.forSearch code2 text 0 p lim false = ({ code := code2, text, lim, lastStart := lim, start := p, pc := 10, pos := p, handed := p, marks := #[], seen := seen' } : Sre.M).say false := by
    rw [forSearch2]
    by_cases hl : p > lim ∨ lim - p < 1
    · refine ⟨({} : Sre.Seen).add 14, .inl ?_⟩
      rw [if_pos (by simpa using hl)]
    · rw [if_neg (by simpa using hl)]
      unfold Sre.M.attemptFrom
      rw [if_neg (by simp [Sre.M.hasFirstSet, Sre.ops])]
      obtain ⟨seen', e'⟩ := admitted_none (m := { ({ code := code2, text, lim, start := p, pc := 10, pos := p, handed := p, marks := #[], seen := ({} : Sre.Seen).add 14 } : Sre.M) with lastStart := lim }) rfl (lim + 1 - p) p (({} : Sre.Seen).add 14) hf
      refine ⟨seen', .inr ?_⟩
      dsimp only at e' ⊢
      rw [e']
  obtain ⟨seen', key | key⟩ := key <;> rw [key] <;> exact ⟨_, ⟨1, by first | lia | omega, rfl⟩, rfl⟩
-- the other pattern
section
abbrev m1 (text : Array Nat) (lim st ps hd : Nat) (seen : Sre.Seen) (mk : Array (Option Nat)) (om : Bool) (lm li : Int) : Sre.M := { code := code1, text, lim, start := st, lastStart := lim, pc := 5, pos := ps, handed := hd, outermost := om, marks := mk, lastmark := lm, lastindex := li, seen }
/-- a dot at a row's beginning -/
def dotAt (text : Array Nat) (lim s : Nat) : Bool := (s == 0 || text.getD (s - 1) 0 == 10) && decide (s < lim) && text.getD s 0 == 46
variable (text : Array Nat) (lim s st ps hd : Nat) (seen : Sre.Seen) (mk : Array (Option Nat)) (first om : Bool) (lm li : Int)
abbrev mA (seen : Sre.Seen) (pc : Nat) (ans : Option Bool) : Sre.M := { code := code1, text, lim, start := s, lastStart := lim, pc, pos := s, handed := s, outermost := first, marks := mk, lastmark := -1, lastindex := -1, frames := [{ wait := .nextStart, pc := 5, pos := s, outermost := first }], weight := 1, answer := ans, seen }
theorem a_start : (m1 text lim st ps hd seen mk om lm li).attemptAt s first = mA text lim s mk first seen 5 none := by
  simp [Sre.M.attemptAt, Sre.M.attempt]
theorem a_at (b : Bool) (h : (s == 0 || text.getD (s - 1) 0 == 10) = b) : (mA text lim s mk first seen 5 none).step = if b = true then mA text lim s mk first ((seen.add 6).add 44) 7 none else mA text lim s mk first ((seen.add 6).add 44) 5 (some false) := by
  have e : (mA text lim s mk first (seen.add 6) 5 none).isAt 1 = .ok b := congrArg _ h
  have e2 : (mA text lim s mk first seen 5 none).step = (match (mA text lim s mk first (seen.add 6) 5 none).isAt 1 with
    | .error why => (mA text lim s mk first (seen.add 6) 5 none).stick why
    | .ok yes => if yes then mA text lim s mk first ((seen.add 6).add 44) 7 none else mA text lim s mk first ((seen.add 6).add 44) 5 (some false)) := rfl
  rw [e2, e]
theorem a_lit_no (h : s ≥ lim ∨ (s < lim ∧ text.getD s 0 ≠ 46)) : (mA text lim s mk first seen 7 none).step = mA text lim s mk first (seen.add 16) 7 (some false) := by
  have e2 : (mA text lim s mk first seen 7 none).step = (if s ≥ lim then mA text lim s mk first (seen.add 16) 7 (some false) else
    match (.ok (text.getD s 0 == 46, seen.add 16) : Except String (Bool × Sre.Seen)) with
    | .error why => (mA text lim s mk first (seen.add 16) 7 none).stick why
    | .ok (false, seen) => mA text lim s mk first seen 7 (some false)
    | .ok (true, seen) => { mA text lim s mk first seen 9 none with pos := s + 1 }) := rfl
  rw [e2]
  rcases h with h | ⟨h, h'⟩
  · rw [if_pos h]
  · rw [if_neg (by first | lia | omega), show (text.getD s 0 == 46) = false from beq_false_of_ne h']
theorem a_lit_yes (h : s < lim) (h' : text.getD s 0 = 46) : (mA text lim s mk first seen 7 none).step = { mA text lim s mk first (seen.add 16) 9 none with pos := s + 1 } := by
  have e2 : (mA text lim s mk first seen 7 none).step = (if s ≥ lim then mA text lim s mk first (seen.add 16) 7 (some false) else
    match (.ok (text.getD s 0 == 46, seen.add 16) : Except String (Bool × Sre.Seen)) with
    | .error why => (mA text lim s mk first (seen.add 16) 7 none).stick why
    | .ok (false, seen) => mA text lim s mk first seen 7 (some false)
    | .ok (true, seen) => { mA text lim s mk first seen 9 none with pos := s + 1 }) := rfl
  rw [e2, if_neg (by first | lia | omega), h']
  rfl
theorem a_end : ∃ m', Goes 4 ({ mA text lim s mk first seen 9 none with pos := s + 1 }) m' ∧ Found m' s (s + 1) := by
  refine ⟨_, ⟨4, by first | lia | omega, rfl⟩, ?_, ?_, ?_⟩
  all_goals simp [Sre.M.runFor, Sre.M.step, Sre.M.exec, Sre.M.word, Sre.ops, Sre.M.say, Sre.M.resume]
theorem goes1 {m m' : Sre.M} (h : m.outcome = none) (e : m.step = m') : Goes 1 m m' := ⟨1, Nat.le_refl _, by rw [Sre.M.runFor, if_neg (by rw [h]; simp), e]; rfl⟩
theorem found1_yes (h : dotAt text lim s = true) : ∃ m', Goes 10 ((m1 text lim st ps hd seen mk om lm li).attemptAt s first) m' ∧ Found m' s (s + 1) := by
  simp only [dotAt, Bool.and_eq_true, decide_eq_true_eq, beq_iff_eq] at h
  obtain ⟨⟨h0, h1⟩, h2⟩ := h
  obtain ⟨m', g, f⟩ := a_end text lim s (((seen.add 6).add 44).add 16) mk first
  have g1 := goes1 (m := mA text lim s mk first seen 5 none) rfl (a_at text lim s seen mk first true h0)
  have g2 := goes1 (m := mA text lim s mk first ((seen.add 6).add 44) 7 none) rfl (a_lit_yes text lim s ((seen.add 6).add 44) mk first h1 h2)
  rw [a_start]
  exact ⟨m', ((g1.trans g2).trans g).mono (by first | lia | omega), f⟩
/-- no dot there: the next place, or the end -/
theorem found1_no (h : dotAt text lim s = false) : ∃ seen', Goes 2 ((m1 text lim st ps hd seen mk om lm li).attemptAt s first) (mA text lim s mk first seen' 5 (some false)) ∨ Goes 2 ((m1 text lim st ps hd seen mk om lm li).attemptAt s first) (mA text lim s mk first seen' 7 (some false)) := by
  rw [a_start]
  cases h0 : (s == 0 || text.getD (s - 1) 0 == 10) with
  | false =>
    exact ⟨_, .inl ((goes1 (m := mA text lim s mk first seen 5 none) rfl (a_at text lim s seen mk first false h0)).mono (by first | lia | omega))⟩
  | true =>
    refine ⟨((seen.add 6).add 44).add 16, .inr ?_⟩
    have h3 : s ≥ lim ∨ (s < lim ∧ text.getD s 0 ≠ 46) := by
      by_cases q : s < lim
      · refine .inr ⟨q, fun e => ?_⟩
        simp only [dotAt, h0, e, decide_eq_true q] at h
        cases h
      · exact .inl (by first | lia | omega)
    have g1 := goes1 (m := mA text lim s mk first seen 5 none) rfl (a_at text lim s seen mk first true h0)
    have g2 := goes1 (m := mA text lim s mk first ((seen.add 6).add 44) 7 none) rfl (a_lit_no text lim s ((seen.add 6).add 44) mk first h3)
    exact g1.trans g2
end
theorem a_next (text : Array Nat) (lim s : Nat) (seen : Sre.Seen) (mk : Array (Option Nat)) (first : Bool) (pc : Nat) (h : s < lim) : Goes 1 (mA text lim s mk first seen pc (some false)) ((m1 text lim s s s seen mk first (-1) (-1)).attemptAt (s + 1) false) := by
  refine goes1 rfl ?_
  have e2 : (mA text lim s mk first seen pc (some false)).step = if s < lim then ((m1 text lim s s s seen mk first (-1) (-1)).attemptAt (s + 1) false) else { m1 text lim s s s seen mk first (-1) (-1) with answer := some false } := rfl
  rw [e2, if_pos h]
theorem a_last (text : Array Nat) (lim s : Nat) (seen : Sre.Seen) (mk : Array (Option Nat)) (first : Bool) (pc : Nat) (h : ¬ s < lim) : ∃ m', Goes 2 (mA text lim s mk first seen pc (some false)) m' ∧ m'.outcome = some .failed := by
  have e2 : (mA text lim s mk first seen pc (some false)).step = if s < lim then ((m1 text lim s s s seen mk first (-1) (-1)).attemptAt (s + 1) false) else { m1 text lim s s s seen mk first (-1) (-1) with answer := some false } := rfl
  rw [if_neg h] at e2
  exact ⟨_, (goes1 rfl e2).trans (goes1 (m := { m1 text lim s s s seen mk first (-1) (-1) with answer := some false }) rfl rfl), rfl⟩
theorem go1_some (text : Array Nat) (lim : Nat) (mk : Array (Option Nat)) {e : Nat} (he : dotAt text lim e = true) : ∀ (n s st ps hd : Nat) (seen : Sre.Seen) (first om : Bool) (lm li : Int), e = s + n → (∀ i, s ≤ i → i < e → dotAt text lim i = false) →
    ∃ m', Goes (3 * n + 10) ((m1 text lim st ps hd seen mk om lm li).attemptAt s first) m' ∧ Found m' e (e + 1)
  | 0, s, st, ps, hd, seen, first, om, lm, li, hn, _ => by
    have : e = s := by first | lia | omega
    subst this
    exact found1_yes _ _ _ _ _ _ _ _ _ _ _ _ he
  | n + 1, s, st, ps, hd, seen, first, om, lm, li, hn, hf => by
    obtain ⟨seen', g⟩ := found1_no text lim s st ps hd seen mk first om lm li (hf s (Nat.le_refl _) (by first | lia | omega))
    have hl : s < lim := by
      simp only [dotAt, Bool.and_eq_true, decide_eq_true_eq] at he
      first | lia | omega
    obtain ⟨m', g', f⟩ := go1_some text lim mk he n (s + 1) s s s seen' false first (-1) (-1) (by first | lia | omega) (fun i h1 h2 => hf i (by first | lia | omega) h2)
    rcases g with g | g
    · exact ⟨m', ((g.trans (a_next text lim s seen' mk first 5 hl)).trans g').mono (by first | lia | omega), f⟩
    · exact ⟨m', ((g.trans (a_next text lim s seen' mk first 7 hl)).trans g').mono (by first | lia | omega), f⟩
theorem go1_none (text : Array Nat) (lim : Nat) (mk : Array (Option Nat)) : ∀ (n s st ps hd : Nat) (seen : Sre.Seen) (first om : Bool) (lm li : Int), lim - s = n → (∀ i, s ≤ i → dotAt text lim i = false) →
    ∃ m', Goes (3 * n + 10) ((m1 text lim st ps hd seen mk om lm li).attemptAt s first) m' ∧ m'.outcome = some .failed
  | 0, s, st, ps, hd, seen, first, om, lm, li, hn, hf => by
    obtain ⟨seen', g⟩ := found1_no text lim s st ps hd seen mk first om lm li (hf s (Nat.le_refl _))
    rcases g with g | g
    · obtain ⟨m', g', f⟩ := a_last text lim s seen' mk first 5 (by first | lia | omega)
      exact ⟨m', (g.trans g').mono (by first | lia | omega), f⟩
    · obtain ⟨m', g', f⟩ := a_last text lim s seen' mk first 7 (by first | lia | omega)
      exact ⟨m', (g.trans g').mono (by first | lia | omega), f⟩
  | n + 1, s, st, ps, hd, seen, first, om, lm, li, hn, hf => by
    obtain ⟨seen', g⟩ := found1_no text lim s st ps hd seen mk first om lm li (hf s (Nat.le_refl _))
    obtain ⟨m', g', f⟩ := go1_none text lim mk n (s + 1) s s s seen' false first (-1) (-1) (by first | lia | omega) (fun i h1 => hf i (by first | lia | omega))
    rcases g with g | g
    · exact ⟨m', ((g.trans (a_next text lim s seen' mk first 5 (by first | lia | omega))).trans g').mono (by first | lia | omega), f⟩
    · exact ⟨m', ((g.trans (a_next text lim s seen' mk first 7 (by first | lia | omega))).trans g').mono (by first | lia | omega), f⟩
theorem forSearch1 (text : Array Nat) (p lim : Nat) : Sre.forSearch code1 text 0 p lim false = if (decide (p > lim) || decide (lim - p < 1)) = true then (m1 text 0 p p p (({} : Sre.Seen).add 14) #[] true (-1) (-1) |> fun m => { m with lim := lim, lastStart := 0, answer := some false })
    else (m1 text lim p p p (({} : Sre.Seen).add 14) #[] true (-1) (-1)).attemptAt p true := rfl
theorem search1_some (text : Array Nat) {lim p s : Nat} (hp : p ≤ s) (hs : dotAt text lim s = true) (hf : ∀ i, p ≤ i → i < s → dotAt text lim i = false) :
    ∃ m', Goes (3 * lim + 10) (Sre.forSearch code1 text 0 p lim false) m' ∧ Found m' s (s + 1) := by
  have hl : s < lim := by
    simp only [dotAt, Bool.and_eq_true, decide_eq_true_eq] at hs
    first | lia | omega
  rw [forSearch1, if_neg (by simp; first | lia | omega)]
  obtain ⟨m', g, f⟩ := go1_some text lim #[] hs (s - p) p p p p (({} : Sre.Seen).add 14) true true (-1) (-1) (by first | lia | omega) hf
  exact ⟨m', g.mono (by first | lia | omega), f⟩
theorem search1_none (text : Array Nat) {lim p : Nat} (hf : ∀ i, p ≤ i → dotAt text lim i = false) :
    ∃ m', Goes (3 * lim + 10) (Sre.forSearch code1 text 0 p lim false) m' ∧ m'.outcome = some .failed := by
  rw [forSearch1]
  by_cases hl : p > lim ∨ lim - p < 1
  · rw [if_pos (by simpa using hl)]
    exact ⟨_, ⟨1, by first | lia | omega, rfl⟩, rfl⟩
  · rw [if_neg (by simpa using hl)]
    obtain ⟨m', g, f⟩ := go1_none text lim #[] (lim - p) p p p p (({} : Sre.Seen).add 14) true true (-1) (-1) rfl hf
    exact ⟨m', g.mono (by first | lia | omega), f⟩
end Mine
open PySem PySem.W PyProof.Rows PySem.Builtin PySem.Builtin.Re
namespace Mine
theorem plainAttrs_pat : PlainAttrs "re.Pattern" :=
  ⟨⟨"object.__getattribute__", by rw [typeLookup_type, builtinLookup_eq_fast]; kernel_rfl, by decide +kernel⟩, by rw [typeLookup_type, builtinLookup_eq_fast]; kernel_rfl⟩
theorem slot_pat_sub : Slot "re.Pattern" "sub" "re.Pattern.sub" :=
  .of (owner := "re.Pattern") (n := "sub") (by rw [typeLookup_type, builtinLookup_eq_fast]; kernel_rfl) (by decide +kernel) (by decide +kernel) (by decide +kernel)
    (by first | exact .inl (by decide +kernel) | exact .inr (by decide +kernel)) (by rw [isSubtype_type]; kernel_rfl)
theorem type_pat_sub : typeOf (.builtin "re.Pattern.sub") = pure (.type "method_descriptor") := by show builtinType _ = _; rw [builtinType_eq_fast]; kernel_rfl
theorem entry_pat_sub : entryFor table "re.Pattern.sub" = some Builtin.«re.Pattern.sub» := entryFor_of_tree (by kernel_rfl)
theorem entry_pat_loop : entryFor table "re.Pattern.sub.loop" = some Builtin.«re.Pattern.sub.loop» := entryFor_of_tree (by kernel_rfl)
theorem loop_plain : plainId "re.Pattern.sub.loop" = true := by decide +kernel
theorem named2 (a b : Value) : reNamed "re.Pattern.sub" "sub" ["repl", "string", "count"] 2 [a, b] [] = pure [some a, some b, none] := by rfl
theorem str_nocall : typeLookup (.type "str") "__call__" = pure none := by rw [typeLookup_type, builtinLookup_eq_fast]; kernel_rfl
theorem owner_pat : Manifest.owners.lookup (String.ofList ['n', 'r', 'e', 't', 't', 'a', 'P', '.', 'e', 'r'].reverse) = some Manifest.«sig_re_Pattern» := by kernel_rfl
theorem args_pat_sub_3 (a b c : Value) : argsOk "re.Pattern.sub" ⟨[a, b, c], []⟩ := by
  unfold argsOk; rw [signature?_of (id := "re.Pattern.sub") (n := ['b', 'u', 's']) (o := ['n', 'r', 'e', 't', 't', 'a', 'P', '.', 'e', 'r']) (by kernel_rfl) owner_pat]; kernel_rfl
section
variable {M : Model} {A : Around} {E : Value → Shared → Prop} {s : Shared}
theorem wp_drive {Q : Sre.M → Shared → Prop} : ∀ (turns k : Nat) (m : Sre.M), 0 < turns → k ≤ 4 * turns → (Sre.M.runFor k m).outcome.isSome = true → Q (Sre.M.runFor k m) s → wpAny M A (reDrive turns m) Q E s
  | 0, k, m, h0, hk, ho, hq => by (first | lia | omega)
  | turns + 1, k, m, h0, hk, ho, hq => by
    unfold reDrive
    dsimp only [reTurnSteps]
    by_cases h4 : (Sre.M.runFor 4 m).outcome.isSome = true
    · rw [if_pos h4]
      have e : Sre.M.runFor 4 m = Sre.M.runFor k m := by
        by_cases hk4 : k ≤ 4
        · have := runFor_add k (4 - k) m
          rw [show k + (4 - k) = 4 by (first | lia | omega)] at this
          rw [this, runFor_done ho]
        · have := runFor_add 4 (k - 4) m
          rw [show 4 + (k - 4) = k by (first | lia | omega)] at this
          rw [this, runFor_done h4]
      rw [e]
      exact wpAny_pure hq
    · rw [if_neg h4]
      have hk4 : 4 < k := by
        apply Nat.lt_of_not_le
        intro q
        have := runFor_add k (4 - k) m
        rw [show k + (4 - k) = 4 by (first | lia | omega), runFor_done ho] at this
        rw [this] at h4
        exact h4 ho
      have e := runFor_add 4 (k - 4) m
      rw [show 4 + (k - 4) = k by (first | lia | omega)] at e
      rw [e] at ho hq
      exact wpAny_bind (wpAny_rule (wp_drive turns (k - 4) _ (by (first | lia | omega)) (by (first | lia | omega)) ho hq))
theorem wp_each {body : Nat → PUnit → Sem (ForInStep PUnit)} (hb : ∀ i (Q : ForInStep PUnit → Shared → Prop), Q (.yield ⟨⟩) s → wpAny M A (body i ⟨⟩) Q E s) {Q : PUnit → Shared → Prop} (hq : Q ⟨⟩ s) : ∀ l : List Nat, wpAny M A (forIn l PUnit.unit body) Q E s
  | [] => wpAny_pure hq
  | i :: l => by
    rw [List.forIn_cons]
    exact wpAny_bind (hb i _ (wp_each hb hq l))
theorem wp_toEnd {m m' : Sre.M} {n : Nat} (hn : n ≤ 2 ^ 60) (g : Goes n m m') {Q : Option Sre.M → Shared → Prop} (h : (m'.outcome = some .matched ∧ Q (some m') s) ∨ (m'.outcome = some .failed ∧ Q none s)) : wpAny M A (reRunToEnd m) Q E s := by
  obtain ⟨k, hk, rfl⟩ := g
  unfold reRunToEnd
  refine wpAny_bind (wp_drive _ k _ (Nat.two_pow_pos 64) (Nat.le_trans hk (Nat.le_trans hn (by decide))) ?_ ?_)
  · rcases h with ⟨e, _⟩ | ⟨e, _⟩ <;> rw [e] <;> rfl
  · refine wpAny_bind (wp_each (fun i Q hq => ?_) ?_ _)
    · split
      · exact wpAny_bind (wpAny_rule (wpAny_pure hq))
      · exact wpAny_pure hq
    · rcases h with ⟨e, hq⟩ | ⟨e, hq⟩ <;> rw [e] <;> exact wpAny_pure hq
end
/-- a compiled pattern of a text, without groups -/
structure Pat (h : Heap) (ap : Addr) (code : Array Nat) : Prop where
  at_ : ∃ o vs ac oc items n, h.get? ap = some o ∧ o.cls = .type "re.Pattern" ∧ o.dict = none ∧ o.data = .fields vs ∧ reRawNat (vs.getD 6 .none) = 0 ∧ reRawNat (vs.getD 2 .none) = 0 ∧ vs.getD 5 .none = .ref ac ∧ h.get? ac = some oc ∧ oc.data = .seq items n ∧ (items.map reRawOf).map (·.toNat) = code
theorem Pat.keeps {h h' : Heap} {ap : Addr} {code : Array Nat} (P : Pat h ap code) (k : ∀ b o, h.get? b = some o → h'.get? b = some o) : Pat h' ap code := by
  obtain ⟨o, vs, ac, oc, items, n, h1, h2, h3, h4, h5, h6, h7, h8, h9, h10⟩ := P.at_
  exact ⟨o, vs, ac, oc, items, n, k _ _ h1, h2, h3, h4, h5, h6, h7, k _ _ h8, h9, h10⟩
section
variable {M : Model} {A : Around} {E : Value → Shared → Prop} {s : Shared} {ap : Addr} {code : Array Nat} {x : Str} {t : Tok}
theorem wp_target {Q : ReTarget → Shared → Prop} (P : Pat s.heap ap code) (h : Q { pattern := .ref ap, string := .str x t, code, text := x.cps, kind := 0, groups := 0, pos := 0, lim := x.cps.size } s) : wpAny M A (reWholeTarget (.ref ap) (.str x t)) Q E s := by
  obtain ⟨o, vs, ac, oc, items, n, h1, h2, h3, h4, h5, h6, h7, h8, h9, h10⟩ := P.at_
  unfold reWholeTarget
  refine wpAny_bind ?_
  unfold fieldsOf
  refine wpAny_bind (wpAny_load h1 ?_)
  rw [h4]
  refine wpAny_pure ?_
  refine wpAny_bind ?_
  unfold reTextOf asStr?
  refine wpAny_bind (wpAny_pure ?_)
  refine wpAny_pure ?_
  simp only [h5, h6, h7]
  rw [if_neg (by decide), if_neg (by decide)]
  refine wpAny_bind ?_
  unfold reNoCollectionInside
  rw [if_neg (by decide)]
  refine wpAny_pure ?_
  refine wpAny_bind ?_
  unfold reRawItems
  refine wpAny_bind (wpAny_seqItems h8 h9 ?_)
  refine wpAny_pure (wpAny_pure ?_)
  simp only [Option.getD_some, h10]
  exact h
end
/-- what one look from p on brings -/
inductive StepAt (code text : Array Nat) (F : Nat → List Nat) (repl : List Nat) (N p : Nat) : Prop
  | none {m' : Sre.M} : Goes N (Sre.forSearch code text 0 p text.size false) m' → m'.outcome = some .failed → F p = (text.extract p text.size).toList → StepAt code text F repl N p
  | some {m' : Sre.M} {s e : Nat} : Goes N (Sre.forSearch code text 0 p text.size false) m' → Found m' s e → p ≤ s → s < e → e ≤ text.size → F p = (text.extract p s).toList ++ (repl ++ F e) → StepAt code text F repl N p
def flat (acc : List (Str × Tok)) : List Nat := acc.flatMap fun y => y.1.cps.toList
section
variable {prog : Program} {w : World} {A : Around} {R : Result → Shared → Prop} {hb : Heap} {ap list : Addr} {code : Array Nat} {x repl : Str} {t tr : Tok}
theorem wp_push {M : Model} {A : Around} {E : Value → Shared → Prop} {s : Shared} {arr : Array Value} {cap : Nat} {v : Value} {Q : Unit → Shared → Prop} (hls : s.heap.get? list = some { cls := .type "list", data := .seq arr cap }) (hz : arr.size ≤ 1000000)
    (h : ∀ h' cap', h'.get? list = some { cls := .type "list", data := .seq (arr.push v) cap' } → (∀ b, b ≠ list → h'.get? b = s.heap.get? b) → Q () { s with heap := h' }) : wpAny M A (updateSeq list fun x => x.push v) Q E s := by
  refine wpAny_updateSeq hls rfl (h _ (cap + 1) ?_ ?_) (by show arr.size ≤ sizeLine; rw [sizeLine_eq]; (first | lia | omega)) (by show (arr.push v).size ≤ sizeLine + 1; rw [sizeLine_eq, Array.size_push]; (first | lia | omega))
  · rw [Heap.get?_update_self _ hls (by rw [Obj.mapSeq_push_plain]; rfl), Obj.mapSeq_push_plain]
  · intro b hb
    exact Heap.get?_update_other _ _ (Ne.symm hb)
theorem flat_len : ∀ {acc : List (Str × Tok)}, (∀ y ∈ acc, 0 < y.1.cps.size) → acc.length ≤ (flat acc).length
  | [], _ => Nat.le_refl _
  | y :: acc, h => by
    have h1 := flat_len (acc := acc) fun z hz => h z (.tail _ hz)
    have h2 := h y (.head _)
    simp only [flat, List.flatMap_cons, List.length_append, Array.length_toList, List.length_cons] at h1 ⊢
    (first | lia | omega)
theorem flat_app (a b : List (Str × Tok)) : flat (a ++ b) = flat a ++ flat b := List.flatMap_append
theorem join_flat : ∀ (acc : List (Str × Tok)), Str.join ⟨#[]⟩ (acc.map (·.1)) = ⟨(flat acc).toArray⟩
  | [] => rfl
  | [y] => by
    show y.1 = _
    simp [flat]
  | y :: z :: r => by
    have ih := join_flat (z :: r)
    show y.1 ++ ⟨#[]⟩ ++ Str.join ⟨#[]⟩ ((z :: r).map (·.1)) = _
    rw [ih]
    apply Str.ext'
    simp [flat, Str.cps_append]
theorem fin_tail {E : Value → Shared → Prop} {s : Shared} {acc : List (Str × Tok)} {cap : Nat} {total : List Nat} {n : Int} {G : Fin → Shared → Prop} (hls : s.heap.get? list = some { cls := .type "list", data := .seq (strValues acc).toArray cap }) (hlen : acc.length ≤ 100001) (hy : flat acc = total) (htot : total.length ≤ 100000)
    (h : ∀ tok tk', G (.done (.ret (.str ⟨total.toArray⟩ tok))) { s with toks := tk' }) :
    wpAny (model prog w) A (do
      let joiner ← reSlice x.cps 0 0 0
      let __do_lift ← seqItems? (Value.ref list)
      if (__do_lift.getD #[]).isEmpty = true then do
          let text ← pure joiner
          if false = true then do
              let __do_lift ← holding [text] do
                    let __do_lift ← mkInt n
                    newTuple [text, __do_lift]
              ret __do_lift
            else ret text
        else do
          let text ← call (Value.builtin (if (0 == 0) = true then "str.join" else "bytes.join")) [joiner, Value.ref list]
          if false = true then do
              let __do_lift ← holding [text] do
                    let __do_lift ← mkInt n
                    newTuple [text, __do_lift]
              ret __do_lift
            else ret text) G E s := by
  have e0 : x.cps.extract 0 0 = #[] := by simp
  refine wpAny_bind ?_
  unfold reSlice
  rw [if_pos (by decide), e0]
  refine wpAny_mkStr ?_ (by show (0 : Nat) ≤ sizeLine; exact Nat.zero_le _)
  refine wpAny_bind (wpAny_seqItems hls rfl ?_)
  rw [Option.getD_some]
  by_cases hne : (strValues acc).toArray.isEmpty = true
  · rw [if_pos hne]
    refine wpAny_bind (wpAny_pure ?_)
    rw [if_neg (by simp)]
    have : acc = [] := by simpa [strValues] using hne
    subst this
    have ht : total = [] := hy.symm
    subst ht
    exact wpAny_pure (h _ _)
  · rw [if_neg hne, if_pos (by decide)]
    refine wpAny_bind (SC.join (l := acc) ⟨_, hls, rfl, _, rfl⟩ rfl ?_ fun t' k => ?_)
    · unfold JoinOk
      rw [StrLaws.joinTotal]
      have : ((acc.map (·.1)).map (·.length)).sum = (flat acc).length := by
        clear hls hlen hy hne
        induction acc with
        | nil => rfl
        | cons y acc ih => simp only [List.map_cons, List.sum_cons, ih, flat, List.flatMap_cons, List.length_append, Array.length_toList]; rfl
      rw [this, hy]
      have e1 : (⟨#[]⟩ : Str).length = 0 := rfl
      rw [e1, Nat.mul_zero, Nat.add_zero]
      simp only [Builtin.Str.tooLong, Bool.not_eq_true', decide_eq_false_iff_not]
      rw [sizeLine_eq]
      (first | lia | omega)
    · rw [if_neg (by simp)]
      have e2 : Txt.join ⟨#[]⟩ (acc.map (·.1)) = ⟨total.toArray⟩ := by
        rw [← hy, ← join_flat]
        exact StrLaws.glued_eq_join _ _
      rw [e2]
      exact wpAny_pure (h _ _)
theorem loop_code (F : Nat → List Nat) (N : Nat) (hN : N ≤ 2 ^ 60) (P : Pat hb ap code) (hl : hb.get? list = none) (hF : ∀ p, p ≤ x.cps.size → StepAt code x.cps F repl.cps.toList N p)
    (total : List Nat) (htot : total.length ≤ 100000) (hx : x.cps.size ≤ 100000) (hrepl : 0 < repl.cps.size) :
    ∀ (k p : Nat) (n : Int) (acc : List (Str × Tok)) (cap : Nat) (s : Shared), x.cps.size - p < k → p ≤ x.cps.size → (∀ b o, hb.get? b = some o → s.heap.get? b = some o) →
      s.heap.get? list = some { cls := .type "list", data := .seq (strValues acc).toArray cap } → (∀ y ∈ acc, 0 < y.1.cps.size) → flat acc ++ F p = total →
      (∀ tok h' tk', (∀ b o, hb.get? b = some o → h'.get? b = some o) → R (.ok (.ret (.str ⟨total.toArray⟩ tok))) { s with heap := h', toks := tk' }) →
      codeAny (model prog w) A (.builtin "re.Pattern.sub.loop" ⟨[.ref ap, .str x t, .str repl tr, rawInt 0, rawInt 0, rawInt n, rawInt p, rawInt p, .bool false, .ref list, .bool false], []⟩) R s := by
  intro k
  induction k with
  | zero => intro p n acc cap s hk; (first | lia | omega)
  | succ k ih =>
    intro p n acc cap s hk hp keep hls hne htt hR
    have hlen : acc.length ≤ 100000 := Nat.le_trans (flat_len hne) (by rw [← htt, List.length_append] at htot; (first | lia | omega))
    refine codeAny_builtin entry_pat_loop ?_
    unfold Builtin.«re.Pattern.sub.loop»
    simp only [rawInt]
    refine wpAny_bind (wp_target (P.keeps keep) ?_)
    dsimp only
    rw [if_pos (by decide)]
    refine wpAny_bind ?_
    unfold reLiteralCannotBeTurned asStr?
    refine wpAny_bind (wpAny_pure ?_)
    rw [if_neg (by simp)]
    refine wpAny_pure ?_
    rw [if_neg (by simp)]
    refine wpAny_bind ?_
    unfold reNextFound
    dsimp only
    rw [Int.toNat_natCast]
    have other : ∀ {h h' : Heap}, (∀ b o, hb.get? b = some o → h.get? b = some o) → (∀ b, b ≠ list → h'.get? b = h.get? b) → (∀ b o, hb.get? b = some o → h'.get? b = some o) := by
      intro h h' k1 k2 b o e
      by_cases q : b = list
      · subst q; rw [hl] at e; cases e
      · rw [k2 b q]; exact k1 b o e
    cases hF p hp with
    | none g ho he =>
      refine wp_toEnd hN g (.inr ⟨ho, ?_⟩)
      dsimp only
      by_cases hps : p < x.cps.size
      · rw [if_pos hps]
        refine wpAny_bind ?_
        unfold reSlice
        rw [if_pos (by decide)]
        refine wpAny_mkStr ?_ (by show (x.cps.extract p x.cps.size).size ≤ sizeLine; rw [sizeLine_eq, Array.size_extract]; (first | lia | omega))
        refine wpAny_bind (wp_push hls (by simp [strValues]; (first | lia | omega)) fun h' cap' hls' ho' => ?_)
        refine fin_tail (acc := acc ++ [(⟨x.cps.extract p x.cps.size⟩, s.toks)]) (cap := cap') (total := total) (by rw [hls']; simp [strValues]) (by rw [List.length_append]; simp; (first | lia | omega)) (by rw [flat_app, ← htt, he]; simp [flat]) htot fun tok tk' => ?_
        exact hR tok h' tk' (other keep ho')
      · rw [if_neg hps]
        refine fin_tail hls (by omega) (by rw [← htt, he]; have : x.cps.extract p x.cps.size = #[] := by simp; omega
                                           simp; (first | lia | omega)) htot fun tok tk' => ?_
        exact hR tok s.heap tk' keep
    | @some m' s' e g ho h1 h2 h3 he =>
      refine wp_toEnd hN g (.inl ⟨ho.out, ?_⟩)
      dsimp only
      rw [ho.start, ho.handed, show (e == s') = false from beq_false_of_ne (by (first | lia | omega))]
      have tail : ∀ (acc' : List (Str × Tok)) (cap' : Nat) (s₁ : Shared) (A' : Around), s₁.gens = s.gens → s₁.drawn = s.drawn → s₁.os = s.os → (∀ b o, hb.get? b = some o → s₁.heap.get? b = some o) → s₁.heap.get? list = some { cls := .type "list", data := .seq (strValues acc').toArray cap' } → (∀ y ∈ acc', 0 < y.1.cps.size) → flat acc' = flat acc ++ (x.cps.extract p s').toList →
          wpAny (model prog w) A' (if (0 == 0) = true then do
              let item ← pure (Value.str repl tr)
              if (item != Value.none) = true then do
                  updateSeq list fun x => x.push item
                  again (Code.builtin "re.Pattern.sub.loop" { pos := [Value.ref ap, Value.str x t, Value.str repl tr, Value.int 0 0, Value.int 0 0, Value.int (n + 1) 0, Value.int (↑e) 0, Value.int (↑e) 0, Value.bool false, Value.ref list, Value.bool false] })
                else again (Code.builtin "re.Pattern.sub.loop" { pos := [Value.ref ap, Value.str x t, Value.str repl tr, Value.int 0 0, Value.int 0 0, Value.int (n + 1) 0, Value.int (↑e) 0, Value.int (↑e) 0, Value.bool false, Value.ref list, Value.bool false] })
            else do
                let found ← reNewMatch (Value.ref ap) (Value.str x t) 0 0 x.cps.size m'
                let item ← holding [found]
                      (if (0 == 1) = true then call (Value.str repl tr) [found]
                      else do
                        let __do_lift ← reFound found
                        reExpand (Value.str repl tr) __do_lift)
                if (item != Value.none) = true then do
                    updateSeq list fun x => x.push item
                    again (Code.builtin "re.Pattern.sub.loop" { pos := [Value.ref ap, Value.str x t, Value.str repl tr, Value.int 0 0, Value.int 0 0, Value.int (n + 1) 0, Value.int (↑e) 0, Value.int (↑e) 0, Value.bool false, Value.ref list, Value.bool false] })
                  else again (Code.builtin "re.Pattern.sub.loop" { pos := [Value.ref ap, Value.str x t, Value.str repl tr, Value.int 0 0, Value.int 0 0, Value.int (n + 1) 0, Value.int (↑e) 0, Value.int (↑e) 0, Value.bool false, Value.ref list, Value.bool false] }))
            (fun fin s' => match fin with | .done f => R (.ok f) s' | .again c' => c'.quiet = true ∧ codeAny (model prog w) A c' R s') (fun e s' => R (.error e) s') s₁ := by
        intro acc' cap' s₁ A' q1 q2 q3 keep' hls' hne' hfl
        rw [if_pos (by decide)]
        refine wpAny_bind (wpAny_pure ?_)
        rw [if_pos (by rfl)]
        have hl' : acc'.length ≤ 100000 := Nat.le_trans (flat_len hne') (by rw [← htt, he, List.length_append, List.length_append] at htot; rw [hfl, List.length_append]; (first | lia | omega))
        refine wpAny_bind (wp_push hls' (by simp [strValues]; (first | lia | omega)) fun h' cap'' hls'' ho'' => ?_)
        refine wpAny_pure ⟨plainId_quiet loop_plain _, ?_⟩
        refine ih e (n + 1) (acc' ++ [(repl, tr)]) cap'' _ (by (first | lia | omega)) h3 (other keep' ho'') (by rw [hls'']; simp [strValues]) ?_ ?_ ?_
        · intro y hy
          rcases List.mem_append.mp hy with hy | hy
          · exact hne' y hy
          · rw [List.mem_singleton.mp hy]; exact hrepl
        · rw [flat_app, hfl, ← htt, he]
          simp [flat]
        · intro tok h' tk' k'
          dsimp only
          rw [q1, q2, q3]
          exact hR tok h' tk' k'
      by_cases hps : p < s'
      · rw [if_pos hps]
        refine wpAny_bind ?_
        unfold reSlice
        rw [if_pos (by decide)]
        refine wpAny_mkStr ?_ (by show (x.cps.extract p s').size ≤ sizeLine; rw [sizeLine_eq, Array.size_extract]; (first | lia | omega))
        refine wpAny_bind (wp_push hls (by simp [strValues]; (first | lia | omega)) fun h' cap' hls' ho' => ?_)
        refine tail (acc ++ [(⟨x.cps.extract p s'⟩, s.toks)]) cap' _ _ rfl rfl rfl (other keep ho') (by rw [hls']; simp [strValues]) ?_ (by rw [flat_app]; simp [flat])
        intro y hy
        rcases List.mem_append.mp hy with hy | hy
        · exact hne y hy
        · rw [List.mem_singleton.mp hy]
          show 0 < (x.cps.extract p s').size
          rw [Array.size_extract]; (first | lia | omega)
      · rw [if_neg hps]
        have e0 : p = s' := by (first | lia | omega)
        exact tail acc cap s _ rfl rfl rfl keep hls hne (by rw [e0]; simp)
/-- sub with a text in the replacement's place, no backslash in it -/
theorem call_sub {Q : Value → Shared → Prop} {E : Value → Shared → Prop} {s : Shared} (F : Nat → List Nat) (N : Nat) (hN : N ≤ 2 ^ 60) (P : Pat s.heap ap code) (hF : ∀ p, p ≤ x.cps.size → StepAt code x.cps F repl.cps.toList N p)
    (htot : (F 0).length ≤ 100000) (hx : x.cps.size ≤ 100000) (hrepl : 0 < repl.cps.size) (hb : repl.cps.contains 92 = false)
    (h : ∀ tok h' tk', (∀ b o, s.heap.get? b = some o → h'.get? b = some o) → Q (.str ⟨(F 0).toArray⟩ tok) { s with heap := h', toks := tk' }) :
    wpAny (model prog w) A (call (.builtin "re.Pattern.sub") [.ref ap, .str repl tr, .str x t]) Q E s := by
  refine wpAny_call (codeAny_call_builtin slot_pat_sub.plain entry_pat_sub ?_)
  obtain ⟨o, _, _, _, _, _, h1, h2, _⟩ := P.at_
  refine slot_pat_sub.check _ _ _ _ _ _ _ _ ⟨o, h1, h2⟩ (args_pat_sub_3 _ _ _) ?_
  unfold Builtin.«re.Pattern.sub» reSubstitute
  refine wpAny_bind ?_
  rw [named2]
  refine wpAny_pure ?_
  (try dsimp only)
  refine wpAny_bind (wpAny_pure ?_)
  refine wpAny_bind ?_
  unfold specialOf
  refine wpAny_bind ?_
  show wpAny _ _ (pure (Value.type "str")) _ _ _
  refine wpAny_pure ?_
  rw [str_nocall]
  refine wpAny_pure ?_
  (try dsimp only)
  rw [if_neg (by simp)]
  unfold asStr?
  refine wpAny_bind (wpAny_pure ?_)
  (try dsimp only)
  refine wpAny_bind (wpAny_pure ?_)
  rw [hb]
  rw [if_neg (by simp), if_pos (by rfl)]
  refine wpAny_bind (wpAny_pure ?_)
  (try dsimp only)
  refine wpAny_bind (wpAny_holding (wp_target P ?_))
  rw [if_neg (by decide)]
  refine wpAny_bind (wpAny_newList ?_ (Nat.zero_le _))
  refine wpAny_pure ⟨plainId_quiet loop_plain _, ?_⟩
  refine loop_code (hb := s.heap) F N hN P ?_ hF (F 0) htot hx hrepl (x.cps.size + 1) 0 0 [] 0 _ (by (first | lia | omega)) (Nat.zero_le _) ?_ ?_ (fun _ hy => nomatch hy) rfl ?_
  · cases hq : s.heap.get? s.heap.objs.size with
    | none => rfl
    | some o' => exact absurd (Heap.lt_size hq) (Nat.lt_irrefl _)
  · intro b o e; exact Heap.get?_push_of_some _ e
  · exact Heap.get?_push_size _ rfl
  · intro tok h' tk' k'
    exact h tok h' tk' k'
end
end Mine
namespace Mine
/-- every end as a return and a feed -/
def norm : List Nat → List Nat
  | [] => []
  | 13 :: 10 :: r => 13 :: 10 :: norm r
  | c :: r => if isEnd c then 13 :: 10 :: norm r else c :: norm r
/-- a dot at a row's beginning twice -/
def stuff : Bool → List Nat → List Nat
  | _, [] => []
  | b, c :: r => if (b && c == 46) = true then 46 :: 46 :: stuff false r else c :: stuff (c == 10) r
theorem norm_crlf (r : List Nat) : norm (13 :: 10 :: r) = 13 :: 10 :: norm r := by simp [norm]
theorem norm_plain {c : Nat} (h : isEnd c = false) (r : List Nat) : norm (c :: r) = c :: norm r := by
  rw [norm, if_neg (by rw [h]; simp)]
  intro r' e _
  subst e
  cases h
theorem norm_lf (r : List Nat) : norm (10 :: r) = 13 :: 10 :: norm r := by
  rw [norm, if_pos (by rfl)]
  intro r' e _
  cases e
theorem norm_cr {r : List Nat} (h : r.head? ≠ some 10) : norm (13 :: r) = 13 :: 10 :: norm r := by
  rw [norm, if_pos (by rfl)]
  intro r' _ e
  subst e
  exact h rfl
theorem norm_skip : ∀ (pre r : List Nat), (∀ c ∈ pre, isEnd c = false) → norm (pre ++ r) = pre ++ norm r
  | [], r, _ => rfl
  | c :: pre, r, h => by
    rw [List.cons_append, norm_plain (h c (.head _)), norm_skip pre r fun d hd => h d (.tail _ hd), List.cons_append]
theorem firstOr (P : Nat → Bool) (lim : Nat) : ∀ (n p : Nat), lim - p = n → (∀ i, p ≤ i → i < lim → P i = false) ∨ ∃ s, p ≤ s ∧ s < lim ∧ P s = true ∧ ∀ i, p ≤ i → i < s → P i = false
  | 0, p, h => .inl fun i h1 h2 => by first | lia | omega
  | n + 1, p, h => by
    cases hp : P p with
    | true => exact .inr ⟨p, Nat.le_refl _, by first | lia | omega, hp, fun i h1 h2 => by first | lia | omega⟩
    | false =>
      rcases firstOr P lim n (p + 1) (by first | lia | omega) with q | ⟨s, h1, h2, h3, h4⟩
      · refine .inl fun i h1 h2 => ?_
        by_cases e : i = p
        · rw [e]; exact hp
        · exact q i (by first | lia | omega) h2
      · refine .inr ⟨s, by first | lia | omega, h2, h3, fun i h5 h6 => ?_⟩
        by_cases e : i = p
        · rw [e]; exact hp
        · exact h4 i (by first | lia | omega) h6
section
variable (x : Array Nat)
theorem drop_cons {p : Nat} (h : p < x.size) : x.toList.drop p = x.getD p 0 :: x.toList.drop (p + 1) := by
  rw [List.drop_eq_getElem_cons (by simpa using h)]
  congr 1
  simp [h]
theorem drop_extract {p s : Nat} (h : p ≤ s) (h' : s ≤ x.size) : x.toList.drop p = (x.extract p s).toList ++ x.toList.drop s := by
  rw [Array.toList_extract]
  have : x.toList.drop s = (x.toList.drop p).drop (s - p) := by rw [List.drop_drop]; congr 1; first | lia | omega
  rw [this, List.take_append_drop]
theorem mem_extract {p s c : Nat} (h' : s ≤ x.size) (hc : c ∈ (x.extract p s).toList) : ∃ i, p ≤ i ∧ i < s ∧ c = x.getD i 0 := by
  rw [Array.mem_toList_iff, Array.mem_iff_getElem] at hc
  obtain ⟨j, hj, e⟩ := hc
  rw [Array.size_extract] at hj
  refine ⟨p + j, by first | lia | omega, by first | lia | omega, ?_⟩
  rw [← e, Array.getElem_extract]
  have : p + j < x.size := by first | lia | omega
  simp [this]
theorem step2 (p : Nat) (hp : p ≤ x.size) : StepAt code2 x (fun p => norm (x.toList.drop p)) [13, 10] 30 p := by
  rcases firstOr (fun i => isEnd (x.getD i 0)) x.size _ p rfl with q | ⟨s, h1, h2, h3, h4⟩
  · obtain ⟨m', g, f⟩ := search2_none x (lim := x.size) (p := p) q
    refine .none g f ?_
    have e := drop_extract x hp (Nat.le_refl _)
    have e0 : x.toList.drop x.size = [] := by simp
    rw [e, e0, norm_skip, norm]
    · simp
    · intro c hc
      obtain ⟨i, i1, i2, rfl⟩ := mem_extract x (Nat.le_refl _) hc
      exact q i i1 i2
  · have e := drop_extract x h1 (Nat.le_of_lt h2)
    have en : norm (x.toList.drop p) = (x.extract p s).toList ++ norm (x.toList.drop s) := by
      rw [e, norm_skip]
      intro c hc
      obtain ⟨i, i1, i2, rfl⟩ := mem_extract x (Nat.le_of_lt h2) hc
      exact h4 i i1 i2
    have e1 := drop_cons x h2
    have h3' : x.getD s 0 = 10 ∨ x.getD s 0 = 13 := by simpa [isEnd] using h3
    rcases h3' with c0 | c0
    · obtain ⟨m', g, f⟩ := search2_some x h1 h2 h4 (.inr (.inl ⟨c0, rfl⟩))
      refine .some g f h1 (by first | lia | omega) (by first | lia | omega) ?_
      show norm (x.toList.drop p) = _
      rw [en, e1, c0, norm_lf]
      rfl
    · by_cases h5 : s + 1 < x.size ∧ x.getD (s + 1) 0 = 10
      · obtain ⟨m', g, f⟩ := search2_some x h1 h2 h4 (.inl ⟨c0, h5.1, h5.2, rfl⟩)
        refine .some g f h1 (by first | lia | omega) (by first | lia | omega) ?_
        show norm (x.toList.drop p) = _
        rw [en, e1, c0, drop_cons x h5.1, h5.2, norm_crlf]
        rfl
      · have h6 : s + 1 ≥ x.size ∨ (s + 1 < x.size ∧ x.getD (s + 1) 0 ≠ 10) := by
          by_cases h7 : s + 1 < x.size
          · exact .inr ⟨h7, fun e => h5 ⟨h7, e⟩⟩
          · exact .inl (by first | lia | omega)
        obtain ⟨m', g, f⟩ := search2_some x h1 h2 h4 (.inr (.inr ⟨c0, h6, rfl⟩))
        refine .some g f h1 (by first | lia | omega) (by first | lia | omega) ?_
        show norm (x.toList.drop p) = _
        rw [en, e1, c0, norm_cr]
        · rfl
        · rcases h6 with h6 | ⟨h6, h7⟩
          · have : x.toList.drop (s + 1) = [] := by simpa using h6
            rw [this]; simp
          · rw [drop_cons x h6]
            simpa using h7
def bolAt (p : Nat) : Bool := p == 0 || x.getD (p - 1) 0 == 10
theorem bolAt_succ (p : Nat) : bolAt x (p + 1) = (x.getD p 0 == 10) := by simp [bolAt]
theorem stuff_skip : ∀ (n p : Nat), p + n ≤ x.size → (∀ i, p ≤ i → i < p + n → dotAt x x.size i = false) → stuff (bolAt x p) (x.toList.drop p) = (x.extract p (p + n)).toList ++ stuff (bolAt x (p + n)) (x.toList.drop (p + n))
  | 0, p, _, _ => by simp
  | n + 1, p, hp, h => by
    have ih := stuff_skip n (p + 1) (by first | lia | omega) fun i h1 h2 => h i (by first | lia | omega) (by first | lia | omega)
    have e : p + 1 + n = p + (n + 1) := by first | lia | omega
    rw [e] at ih
    have hd := h p (Nat.le_refl _) (by first | lia | omega)
    have hlt : p < x.size := by first | lia | omega
    have hd' : (bolAt x p && x.getD p 0 == 46) = false := by
      simp only [dotAt, decide_eq_true hlt, Bool.and_true] at hd
      exact hd
    rw [drop_cons x hlt, stuff, if_neg (by rw [hd']; simp), ← bolAt_succ, ih]
    have e2 : (x.extract p (p + (n + 1))).toList = x.getD p 0 :: (x.extract (p + 1) (p + (n + 1))).toList := by
      rw [Array.toList_extract, Array.toList_extract, List.extract_eq_take_drop, List.extract_eq_take_drop, drop_cons x hlt]
      have : p + (n + 1) - p = (p + (n + 1) - (p + 1)) + 1 := by first | lia | omega
      rw [this, List.take_succ_cons]
    rw [e2, List.cons_append]
theorem step1 (p : Nat) (hp : p ≤ x.size) : StepAt code1 x (fun p => stuff (bolAt x p) (x.toList.drop p)) [46, 46] (3 * x.size + 10) p := by
  rcases firstOr (fun i => dotAt x x.size i) x.size _ p rfl with q | ⟨s, h1, h2, h3, h4⟩
  · obtain ⟨m', g, f⟩ := search1_none x (lim := x.size) (p := p) (fun i h1 => by
      by_cases h2 : i < x.size
      · exact q i h1 h2
      · simp [dotAt, h2])
    refine .none g f ?_
    have e := stuff_skip x (x.size - p) p (by first | lia | omega) fun i h1 h2 => q i h1 (by first | lia | omega)
    have e1 : p + (x.size - p) = x.size := by first | lia | omega
    rw [e1] at e
    show stuff (bolAt x p) (x.toList.drop p) = _
    rw [e]
    have e0 : x.toList.drop x.size = [] := by simp
    rw [e0, stuff, List.append_nil]
  · obtain ⟨m', g, f⟩ := search1_some x h1 h3 h4
    refine .some g f h1 (by first | lia | omega) (by first | lia | omega) ?_
    have e := stuff_skip x (s - p) p (by first | lia | omega) fun i h5 h6 => h4 i h5 (by first | lia | omega)
    have e1 : p + (s - p) = s := by first | lia | omega
    rw [e1] at e
    show stuff (bolAt x p) (x.toList.drop p) = _
    rw [e]
    have h3' : (bolAt x s && x.getD s 0 == 46) = true := by
      simp only [dotAt, decide_eq_true h2, Bool.and_true] at h3
      exact h3
    have c0 : x.getD s 0 = 46 := by simpa using (Bool.and_eq_true_iff.mp h3').2
    rw [drop_cons x h2, stuff, if_pos h3']
    congr 1
    show 46 :: 46 :: _ = 46 :: 46 :: _
    rw [bolAt_succ, c0]
    rfl
end
theorem norm_len : ∀ l : List Nat, (norm l).length ≤ 2 * l.length
  | [] => Nat.le_refl _
  | [c] => by
    by_cases h : isEnd c = true
    · have : c = 10 ∨ c = 13 := by simpa [isEnd] using h
      rcases this with rfl | rfl <;> decide
    · rw [norm_plain (by simpa using h), norm]; simp
  | c :: d :: r => by
    have i1 := norm_len r
    have i2 := norm_len (d :: r)
    by_cases h : isEnd c = true
    · have : c = 10 ∨ c = 13 := by simpa [isEnd] using h
      rcases this with rfl | rfl
      · rw [norm_lf]; simp only [List.length_cons] at *; first | lia | omega
      · by_cases hd : d = 10
        · subst hd; rw [norm_crlf]; simp only [List.length_cons] at *; first | lia | omega
        · rw [norm_cr (by simpa using hd)]; simp only [List.length_cons] at *; first | lia | omega
    · rw [norm_plain (by simpa using h)]; simp only [List.length_cons] at *; first | lia | omega
theorem stuff_len : ∀ (b : Bool) (l : List Nat), (stuff b l).length ≤ 2 * l.length
  | _, [] => Nat.le_refl _
  | b, c :: r => by
    rw [stuff]
    split
    · have := stuff_len false r; simp only [List.length_cons] at *; first | lia | omega
    · have := stuff_len (c == 10) r; simp only [List.length_cons] at *; first | lia | omega
/-- what quotedata makes of a text -/
def qd (l : List Nat) : List Nat := stuff true (norm l)
end Mine
namespace Mine
theorem pat54 (w : World) {h : Heap} : (MineH.KH w.params).In h → PySem.Challenge.rw_oc0215_01.prog = PySem.Challenge.rw_oc0215_01.prog → Pat h 54 code2 := by
  k_fill
  intro X _
  have h1 := X 54 _ (by k_is)
  have h2 := X 53 _ (by k_is)
  exact ⟨_, _, _, _, _, _, h1, rfl, rfl, rfl, rfl, rfl, rfl, h2, rfl, by decide +kernel⟩
theorem pat49 (w : World) {h : Heap} : (MineH.KH w.params).In h → PySem.Challenge.rw_oc0215_01.prog = PySem.Challenge.rw_oc0215_01.prog → Pat h 49 code1 := by
  k_fill
  intro X _
  have h1 := X 49 _ (by k_is)
  have h2 := X 48 _ (by k_is)
  exact ⟨_, _, _, _, _, _, h1, rfl, rfl, rfl, rfl, rfl, rfl, h2, rfl, by decide +kernel⟩
section
variable {prog : Program} {w : World} {A : Around} {E : Value → Shared → Prop} {s : Shared} {h₀ : Heap} {L : Addr} {m : Str → Option Value} {news : List (Addr × Obj)}
theorem meth_sub {ap : Addr} {code : Array Nat} {pl : Sem Bool} {Q : Value × List Value → Shared → Prop} (F : Fr h₀ L s.heap m) (P : Pat h₀ ap code) (h : Q (.builtin "re.Pattern.sub", [.ref ap]) s) : wpAny (model prog w) A (getMethod (.ref ap) "sub" pl) Q E s := by
  obtain ⟨o, _, _, _, _, _, h1, h2, h3, _⟩ := (P.keeps F.keep).at_
  exact getMethod_builtin ⟨o, h1, h2⟩ plainAttrs_pat slot_pat_sub type_pat_sub (fun a e => by cases e; exact ⟨o, h1, h3⟩) h
theorem news_kept {h h' : Heap} (N : News h₀ L h news) (k : ∀ b o, h.get? b = some o → h'.get? b = some o) : News h₀ L h' news := fun p hp => ⟨k _ _ (N p hp).1, (N p hp).2⟩
theorem sub54 {x : Str} {t tr : Tok} {Q : Value → Shared → Prop} (F : Fr h₀ L s.heap m) (N : News h₀ L s.heap news) (P : Pat h₀ 54 code2) (hx : x.length ≤ 10000)
    (h : ∀ tok h' tk', Fr h₀ L h' m → News h₀ L h' news → (⟨(norm x.cps.toList).toArray⟩ : Str).length ≤ 20000 → Q (.str ⟨(norm x.cps.toList).toArray⟩ tok) { s with heap := h', toks := tk' }) :
    wpAny (model prog w) A (call (.builtin "re.Pattern.sub") [.ref 54, .str (Str.ofString "\r\n") tr, .str x t]) Q E s := by
  have hx' : x.cps.size ≤ 10000 := hx
  have hl : (norm x.cps.toList).length ≤ 2 * x.cps.size := norm_len x.cps.toList
  refine call_sub (fun p => norm (x.cps.toList.drop p)) 30 (by decide) (P.keeps F.keep) (fun p hp => step2 x.cps p hp) (by show (norm (x.cps.toList.drop 0)).length ≤ _; rw [List.drop_zero]; omega) (by omega) (by decide) (by decide +kernel) fun tok h' tk' k => ?_
  exact h tok h' tk' (F.after k) (news_kept N k) (by show (norm x.cps.toList).toArray.size ≤ _; rw [List.size_toArray]; omega)
theorem sub49 {x : Str} {t tr : Tok} {Q : Value → Shared → Prop} (F : Fr h₀ L s.heap m) (N : News h₀ L s.heap news) (P : Pat h₀ 49 code1) (hx : x.length ≤ 20000)
    (h : ∀ tok h' tk', Fr h₀ L h' m → News h₀ L h' news → (⟨(stuff true x.cps.toList).toArray⟩ : Str).length ≤ 40000 → Q (.str ⟨(stuff true x.cps.toList).toArray⟩ tok) { s with heap := h', toks := tk' }) :
    wpAny (model prog w) A (call (.builtin "re.Pattern.sub") [.ref 49, .str (Str.ofString "..") tr, .str x t]) Q E s := by
  have hx' : x.cps.size ≤ 20000 := hx
  have hl : (stuff true x.cps.toList).length ≤ 2 * x.cps.size := stuff_len true x.cps.toList
  refine call_sub (fun p => stuff (bolAt x.cps p) (x.cps.toList.drop p)) (3 * x.cps.size + 10) (by omega) (P.keeps F.keep) (fun p hp => step1 x.cps p hp) (by show (stuff true (x.cps.toList.drop 0)).length ≤ _; rw [List.drop_zero]; omega) (by omega) (by decide) (by decide +kernel) fun tok h' tk' k => ?_
  exact h tok h' tk' (F.after k) (news_kept N k) (by show (stuff true x.cps.toList).toArray.size ≤ _; rw [List.size_toArray]; omega)
end
theorem w1_Qd : True := by
  k_with_none
  (k_with "k_room" => first | exact Nat.le_of_ble_eq_true rfl | exact rm (b := 1) hdp (by decide) | exact rm (b := 2) hdp (by decide) | exact rm (b := 3) hdp (by decide) | exact rm (b := 4) hdp (by decide) | exact rm (b := 5) hdp (by decide) | exact rm (b := 6) hdp (by decide) | exact rm (b := 7) hdp (by decide) | exact rm (b := 8) hdp (by decide) | exact rm (b := 9) hdp (by decide) | exact rm (b := 10) hdp (by decide) | exact rm (b := 11) hdp (by decide) | exact rm (b := 12) hdp (by decide) | exact rm (b := 13) hdp (by decide) | exact rm (b := 14) hdp (by decide) | exact rm (b := 15) hdp (by decide) | exact rm (b := 16) hdp (by decide) | exact rm (b := 17) hdp (by decide) | exact rm (b := 18) hdp (by decide) | exact rm (b := 19) hdp (by decide) | exact rm (b := 20) hdp (by decide) | exact rm (b := 21) hdp (by decide) | exact rm (b := 22) hdp (by decide) | exact rm (b := 23) hdp (by decide) | exact rm (b := 24) hdp (by decide) | exact rm (b := 25) hdp (by decide) | exact rm (b := 1) hu (by decide) | exact rm (b := 3) hu (by decide) | exact rm (b := 4) hu (by decide) | exact rm (b := 7) hu (by decide) | exact rm (b := 19) hu (by decide) | exact rm (b := 23) hu (by decide) | exact rm (b := 35) hu (by decide) | exact rm (b := 39) hu (by decide) | exact rm (b := 51) hu (by decide) | exact rm (b := 55) hu (by decide) | exact rm (b := 64) hu (by decide) | exact rm (b := 67) hu (by decide) | exact rm (b := 71) hu (by decide) | exact rm (b := 83) hu (by decide) | exact rm (b := 87) hu (by decide) | exact rm (b := 99) hu (by decide) | exact rm (b := 103) hu (by decide) | exact rm (b := 115) hu (by decide) | exact rm (b := 119) hu (by decide) | exact rm (b := 131) hu (by decide) | exact rm (b := 135) hu (by decide) | exact rm (b := 147) hu (by decide) | exact rm (b := 151) hu (by decide) | exact rm (b := 163) hu (by decide) | exact rm (b := 167) hu (by decide) | exact rm (b := 179) hu (by decide) | exact rm (b := 183) hu (by decide) | exact rm (b := 195) hu (by decide) | exact rm (b := 199) hu (by decide) | exact rm (b := 211) hu (by decide) | exact rm (b := 215) hu (by decide) | exact rm (b := 227) hu (by decide) | exact rm (b := 231) hu (by decide) | exact rm (b := 243) hu (by decide) | exact rm (b := 247) hu (by decide) | exact rm (b := 259) hu (by decide) | exact rm (b := 263) hu (by decide) | exact rm (b := 275) hu (by decide) | exact rm (b := 279) hu (by decide) | exact rm (b := 291) hu (by decide) | exact rm (b := 295) hu (by decide) | exact rm (b := 307) hu (by decide) | exact rm (b := 311) hu (by decide) | exact rm (b := 323) hu (by decide) | exact rm (b := 327) hu (by decide) | exact rm (b := 339) hu (by decide) | exact rm (b := 343) hu (by decide) | exact rm (b := 355) hu (by decide) | exact rm (b := 371) hu (by decide) | exact rm (b := 387) hu (by decide) | ktr_room | ktr_units)
  (k_with "execs cons" => (k_here; k_fold))
  (k_with "execs cons" => (k_here; refine gen_tk ?_; intro tk8))
  (k_with "eval Constant str" => (k_here; refine const_str ?_; intro t8 tk8))
  (k_with "eval Constant int" => (k_here; refine const_int ?_; intro t8 tk8))
  (k_with "getMethod ref" => (k_here; (with_reducible show wpAny _ _ (getMethod (Value.ref _) (PySem.Str.ofString "sub") _) _ _ _); first
  | (refine' meth_sub (ap := 54) (code := code2) ?k1 ?k2 ?_; (case k1 => k_asm); (case k2 => exact pat54 _ (by k_asm) rfl))
  | (refine' meth_sub (ap := 49) (code := code1) ?k1 ?k2 ?_; (case k1 => k_asm); (case k2 => exact pat49 _ (by k_asm) rfl))))
  (k_with "call builtin:re.Pattern.sub" => (k_here; first
  | (refine' sub54 ?k1 ?k2 ?k3 ?k4 ?_; (case k1 => k_asm); (case k2 => k_asm); (case k3 => exact pat54 _ (by k_asm) rfl); (case k4 => omega); intro t' h' k' F' N' l')
  | (refine' sub49 ?k1 ?k2 ?k3 ?k4 ?_; (case k1 => k_asm); (case k2 => k_asm); (case k3 => exact pat49 _ (by k_asm) rfl); (case k4 => omega); intro t' h' k' F' N' l')))
  trivial
theorem quotedata_c (w : World) (news : List (Addr × Obj)) (x : Str) (t : Tok) : MyCl w 61 20 news (x.length ≤ 10000) [Value.str x t] (rStr news ⟨(qd x.cps.toList).toArray⟩) := by
  dsimp only [MyCl, rStr]; k_fill; intros; rename_i hret
  refine wpAny_call ?_
  k_dflt cell_enter
  refine let_A ?_
  intro A1
  k_steps
  all_goals exact hret _ _ _ (by k_asm) (by k_asm)
end Mine
theorem Mine.wend_Qd : True := by
  k_with_none
  trivial
open PySem PySem.W PyProof.Rows PySem.Builtin
namespace Mine
abbrev dqT : String := "collections.deque"
abbrev dqOf (xs : List Value) (n : Int) : Obj := { cls := .type "collections.deque", data := .fields (#[.none, rawInt n] ++ xs.toArray) }
theorem plainAttrs_dq : PlainAttrs "collections.deque" :=
  ⟨⟨"collections.deque.__getattribute__", by rw [typeLookup_type, builtinLookup_eq_fast]; kernel_rfl, by decide +kernel⟩, by rw [typeLookup_type, builtinLookup_eq_fast]; kernel_rfl⟩
theorem slot_dq_append : Slot "collections.deque" "append" "collections.deque.append" :=
  .of (owner := "collections.deque") (n := "append") (by rw [typeLookup_type, builtinLookup_eq_fast]; kernel_rfl) (by decide +kernel) (by decide +kernel) (by decide +kernel)
    (by first | exact .inl (by decide +kernel) | exact .inr (by decide +kernel)) (by rw [isSubtype_type]; kernel_rfl)
theorem slot_dq_pop : Slot "collections.deque" "pop" "collections.deque.pop" :=
  .of (owner := "collections.deque") (n := "pop") (by rw [typeLookup_type, builtinLookup_eq_fast]; kernel_rfl) (by decide +kernel) (by decide +kernel) (by decide +kernel)
    (by first | exact .inl (by decide +kernel) | exact .inr (by decide +kernel)) (by rw [isSubtype_type]; kernel_rfl)
theorem slot_dq_len : Slot "collections.deque" "__len__" "collections.deque.__len__" :=
  .of (owner := "collections.deque") (n := "__len__") (by rw [typeLookup_type, builtinLookup_eq_fast]; kernel_rfl) (by decide +kernel) (by decide +kernel) (by decide +kernel)
    (by first | exact .inl (by decide +kernel) | exact .inr (by decide +kernel)) (by rw [isSubtype_type]; kernel_rfl)
theorem noBool_dq : typeLookup (.type "collections.deque") "__bool__" = pure none := by rw [typeLookup_type, builtinLookup_eq_fast]; kernel_rfl
theorem type_dq_append : typeOf (.builtin "collections.deque.append") = pure (.type "method_descriptor") := by show builtinType _ = _; rw [builtinType_eq_fast]; kernel_rfl
theorem type_dq_pop : typeOf (.builtin "collections.deque.pop") = pure (.type "method_descriptor") := by show builtinType _ = _; rw [builtinType_eq_fast]; kernel_rfl
theorem entry_dq_append : entryFor table "collections.deque.append" = some Builtin.«collections.deque.append» := entryFor_of_tree (by kernel_rfl)
theorem entry_dq_pop : entryFor table "collections.deque.pop" = some Builtin.«collections.deque.pop» := entryFor_of_tree (by kernel_rfl)
theorem entry_dq_len : entryFor table "collections.deque.__len__" = some Builtin.«collections.deque.__len__» := entryFor_of_tree (by kernel_rfl)
theorem owner_dq : Manifest.owners.lookup (String.ofList ("collections.deque".toList.reverse).reverse) = some Manifest.«sig_collections_deque» := by kernel_rfl
theorem args_dq_append (a b : Value) : argsOk "collections.deque.append" ⟨[a, b], []⟩ := by
  unfold argsOk; rw [signature?_of (id := "collections.deque.append") (n := ['d', 'n', 'e', 'p', 'p', 'a']) (o := "collections.deque".toList.reverse) (by kernel_rfl) owner_dq]; kernel_rfl
theorem args_dq_pop (a : Value) : argsOk "collections.deque.pop" ⟨[a], []⟩ := by
  unfold argsOk; rw [signature?_of (id := "collections.deque.pop") (n := ['p', 'o', 'p']) (o := "collections.deque".toList.reverse) (by kernel_rfl) owner_dq]; kernel_rfl
theorem args_dq_len (a : Value) : argsOk "collections.deque.__len__" ⟨[a], []⟩ := by
  unfold argsOk; rw [signature?_of (id := "collections.deque.__len__") (n := ['_', '_', 'n', 'e', 'l', '_', '_']) (o := "collections.deque".toList.reverse) (by kernel_rfl) owner_dq]; kernel_rfl
section
variable {prog : Program} {w : World} {A : Around} {E : Value → Shared → Prop} {s : Shared} {h₀ : Heap} {L d : Addr} {m : Str → Option Value} {news news' : List (Addr × Obj)} {xs : List Value} {n : Int}
theorem dq_truth {Q : Bool → Shared → Prop} (hd : s.heap.get? d = some (dqOf xs n)) (hx : xs.length < 1000)
    (h : Q (!xs.isEmpty) { s with toks := s.toks + 1 + 1 }) : wpAny (model prog w) A (truthy (.ref d)) Q E s := by
  have hT : s.TypeIs (.ref d) "collections.deque" := ⟨_, hd, rfl⟩
  have hsz : (#[Value.none, rawInt n] ++ xs.toArray).size - 2 = xs.length := by simp
  have hne : ((xs.length : Int) != 0) = !xs.isEmpty := by cases xs <;> simp <;> first | lia | omega
  have key : wpAny (model prog w) A (runValue (.builtin "len" ⟨[.ref d], []⟩)) (fun r s' => r = .int xs.length (s.toks + 1) ∧ Q (!xs.isEmpty) s') E s := by
    refine wpAny_runValue (codeAny_builtin entry_len ?_)
    rw [Around.under_plainId plain_len _]
    unfold Builtin.«len»
    refine wpAny_bind (m := oneArg "len" _) (wpAny_pure ?_)
    refine wpAny_bind (m := callSpecial? (.ref d) (Str.ofString "__len__")) (wpAny_callSpecial?_slot (name := Str.ofString "__len__") hT slot_dq_len
      (wpAny_call_entry slot_dq_len hT entry_dq_len ?_ (args_dq_len _)))
    unfold Builtin.«collections.deque.__len__»
    refine wpAny_bind (m := slotArgs "__len__" 0 _) (wpAny_pure ?_)
    refine wpAny_bind (m := Deque.size (.ref d)) ?_
    unfold Deque.size fieldsOf
    refine wpAny_bind (wpAny_bind (wpAny_load hd ?_))
    refine wpAny_pure (wpAny_pure ?_)
    rw [hsz]
    refine wpAny_bind (wpAny_mkInt (wpAny_pure ⟨_, rfl, ?_⟩))
    refine wpAny_bind (wpAny_holding (wpAny_pure ?_))
    refine wpAny_bind (wpAny_letGo ?_)
    show wpAny _ _ (if ((xs.length : Nat) : Int) < 0 then _ else _) _ _ _
    rw [if_neg (by first | lia | omega)]
    show wpAny _ _ (if ((xs.length : Nat) : Int) ≥ 2 ^ 63 then _ else _) _ _ _
    rw [if_neg (by first | lia | omega)]
    exact wpAny_bind (wpAny_mkInt (wpAny_pure ⟨rfl, h⟩))
  unfold truthy
  first
    | refine wpAny_bind (wpAny_callSpecial?_none (name := Str.ofString "__bool__") hT noBool_dq ?_)
    | refine wpAny_bind (wpAny_pure (wpAny_bind (wpAny_callSpecial?_none (name := Str.ofString "__bool__") hT noBool_dq ?_)))
  first
    | refine wpAny_bind (wpAny_specialOf (name := Str.ofString "__len__") hT slot_dq_len.lookup ?_)
    | refine wpAny_bind (wpAny_pure (wpAny_bind (wpAny_specialOf (name := Str.ofString "__len__") hT slot_dq_len.lookup ?_)))
  first
    | exact wpAny_bind (wpAny_mono key (fun r s' h' => by obtain ⟨rfl, hq⟩ := h'; exact wpAny_pure (hne ▸ hq)) fun _ _ e => e)
    | exact wpAny_bind (wpAny_pure (wpAny_bind (wpAny_mono key (fun r s' h' => by obtain ⟨rfl, hq⟩ := h'; exact wpAny_pure (hne ▸ hq)) fun _ _ e => e)))
theorem dq_meth_append {pl : Sem Bool} {Q : Value × List Value → Shared → Prop} (hd : s.heap.get? d = some (dqOf xs n)) (h : Q (.builtin "collections.deque.append", [.ref d]) s) : wpAny (model prog w) A (getMethod (.ref d) "append" pl) Q E s :=
  getMethod_builtin ⟨_, hd, rfl⟩ plainAttrs_dq slot_dq_append type_dq_append (fun a e => by cases e; exact ⟨_, hd, rfl⟩) h
theorem dq_meth_pop {pl : Sem Bool} {Q : Value × List Value → Shared → Prop} (hd : s.heap.get? d = some (dqOf xs n)) (h : Q (.builtin "collections.deque.pop", [.ref d]) s) : wpAny (model prog w) A (getMethod (.ref d) "pop" pl) Q E s :=
  getMethod_builtin ⟨_, hd, rfl⟩ plainAttrs_dq slot_dq_pop type_dq_pop (fun a e => by cases e; exact ⟨_, hd, rfl⟩) h
theorem dq_change {f : Array Value → Array Value} {ys : List Value} {Q : Unit → Shared → Prop} (F : Fr h₀ L s.heap m) (N : News h₀ L s.heap news) (U : Upd d (dqOf xs n) (dqOf ys (n + 1)) news news') (hx : xs.length < 1000) (hf : f xs.toArray = ys.toArray) (hy : ys.length < 2000)
    (h : ∀ h', Fr h₀ L h' m → News h₀ L h' news' → Q () { s with heap := h' }) : wpAny (model prog w) A (Deque.change (.ref d) f) Q E s := by
  obtain ⟨pre, post, rfl, rfl, a, b⟩ := U.split
  have z := N (d, dqOf xs n) (by simp)
  have hd := z.1
  unfold Deque.change Deque.state field fieldsOf
  dsimp only
  refine wpAny_bind (wpAny_bind (wpAny_bind (wpAny_bind (wpAny_load hd ?_))))
  refine wpAny_pure ?_
  have e1 : (#[Value.none, rawInt n] ++ xs.toArray)[1]? = some (rawInt n) := by simp
  rw [e1]
  refine wpAny_pure (wpAny_pure ?_)
  have e2 : (#[Value.none, rawInt n] ++ xs.toArray).extract 2 (#[Value.none, rawInt n] ++ xs.toArray).size = xs.toArray := by
    apply Array.ext'
    simp
  have e3 : (#[Value.none, rawInt n] ++ xs.toArray).getD 0 .none = .none := by simp
  refine wpAny_updateFields hd rfl (h _ ?_ ?_) ?_
  · exact F.change (Heap.SameBut.update ..) z.2.1 z.2.2
  · refine news_set N a b (Heap.SameBut.update ..) ?_
    rw [Heap.get?_update_self _ hd (by rfl)]
    congr 1
    show ({ cls := _, data := .fields (#[_, _] ++ f _) } : Obj) = _
    rw [e2, e3, hf]
    rfl
  · rw [e2, hf]
    simp only [Array.size_append, List.size_toArray, sizeLine_eq]
    simp
    first | lia | omega
theorem dq_append {v : Value} {Q : Value → Shared → Prop} (F : Fr h₀ L s.heap m) (N : News h₀ L s.heap news) (U : Upd d (dqOf xs n) (dqOf (xs ++ [v]) (n + 1)) news news') (hx : xs.length < 1000)
    (h : ∀ h', Fr h₀ L h' m → News h₀ L h' news' → Q .none { s with heap := h' }) : wpAny (model prog w) A (call (.builtin "collections.deque.append") [.ref d, v]) Q E s := by
  have hd : s.heap.get? d = some (dqOf xs n) := by
    obtain ⟨pre, post, rfl, rfl, a, b⟩ := U.split
    exact (N (d, dqOf xs n) (by simp)).1
  have hT : s.TypeIs (.ref d) "collections.deque" := ⟨_, hd, rfl⟩
  refine wpAny_call_entry slot_dq_append hT entry_dq_append ?_ (args_dq_append _ _)
  unfold Builtin.«collections.deque.append»
  refine wpAny_bind (m := selfAndOne "deque.append" _) (wpAny_pure ?_)
  unfold Deque.pushRight
  refine wpAny_bind (wpAny_bind (dq_change F N U hx (by simp) (by simp; first | lia | omega) fun h' F' N' => ?_))
  have hd' : h'.get? d = some (dqOf (xs ++ [v]) (n + 1)) := by
    obtain ⟨pre, post, rfl, rfl, a, b⟩ := U.split
    exact (N' (d, dqOf (xs ++ [v]) (n + 1)) (by simp)).1
  unfold Deque.maxlen field fieldsOf
  refine wpAny_bind (wpAny_bind (wpAny_bind (wpAny_bind (wpAny_load hd' ?_))))
  refine wpAny_pure ?_
  have e1 : (#[Value.none, rawInt (n + 1)] ++ (xs ++ [v]).toArray)[0]? = some .none := by simp
  rw [e1]
  refine wpAny_pure (wpAny_pure (wpAny_pure ?_))
  exact wpAny_pure ⟨_, rfl, h h' F' N'⟩
theorem dq_pop {v : Value} {Q : Value → Shared → Prop} (F : Fr h₀ L s.heap m) (N : News h₀ L s.heap news) (U : Upd d (dqOf (xs ++ [v]) n) (dqOf xs (n + 1)) news news') (hx : xs.length < 900)
    (h : ∀ h', Fr h₀ L h' m → News h₀ L h' news' → Q v { s with heap := h' }) : wpAny (model prog w) A (call (.builtin "collections.deque.pop") [.ref d]) Q E s := by
  have hd : s.heap.get? d = some (dqOf (xs ++ [v]) n) := by
    obtain ⟨pre, post, rfl, rfl, a, b⟩ := U.split
    exact (N (d, dqOf (xs ++ [v]) n) (by simp)).1
  have hT : s.TypeIs (.ref d) "collections.deque" := ⟨_, hd, rfl⟩
  refine wpAny_call_entry slot_dq_pop hT entry_dq_pop ?_ (args_dq_pop _)
  unfold Builtin.«collections.deque.pop»
  refine wpAny_bind (m := selfOnly "deque.pop" _) (wpAny_pure ?_)
  refine wpAny_bind (m := Deque.items (.ref d)) ?_
  unfold Deque.items fieldsOf
  refine wpAny_bind (wpAny_bind (wpAny_load hd ?_))
  refine wpAny_pure (wpAny_pure ?_)
  have e2 : (#[Value.none, rawInt n] ++ (xs ++ [v]).toArray).extract 2 (#[Value.none, rawInt n] ++ (xs ++ [v]).toArray).size = (xs ++ [v]).toArray := by
    apply Array.ext'
    simp
    exact List.take_of_length_le (by simp)
  rw [e2]
  have e3 : (xs ++ [v]).toArray.back? = some v := by simp
  rw [e3]
  refine wpAny_bind (dq_change F N U (by simp; first | lia | omega) (by simp) (by first | lia | omega) fun h' F' N' => ?_)
  exact wpAny_pure ⟨_, rfl, h h' F' N'⟩
end
end Mine
open PySem PyProof.Rows PySem.Builtin PySem.Builtin.Str
namespace Mine
theorem range_filterMap (x : Array Nat) (a : Nat) : ∀ k, a + k ≤ x.size → ((List.range k).map fun i => a + i).filterMap (x[·]?) = (x.extract a (a + k)).toList
  | 0, _ => by simp
  | k + 1, h => by
    rw [List.range_succ, List.map_append, List.filterMap_append, range_filterMap x a k (by first | lia | omega)]
    have e : x[a + k]? = some x[a + k] := by simp [show a + k < x.size by first | lia | omega]
    simp only [List.map_cons, List.map_nil, List.filterMap_cons, e, List.filterMap_nil]
    have : x.extract a (a + (k + 1)) = (x.extract a (a + k)).push x[a + k] := by
      rw [← Nat.add_assoc, Array.extract_succ_right (by first | lia | omega) (by first | lia | omega)]
    rw [this, Array.toList_push]
theorem sliceRange_nat {a b : Nat} (h : a ≤ b) : sliceRange (a : Int) (b : Int) 1 = (List.range (b - a)).map fun i => a + i := by
  unfold sliceRange
  rw [if_pos (by decide)]
  by_cases q : a = b
  · subst q; simp
  · rw [if_pos (by first | lia | omega)]
    have m3 : (((b : Int) - a + 1 - 1) / 1).toNat = b - a := by rw [Int.ediv_one]; first | lia | omega
    dsimp only
    rw [m3]
    apply List.map_congr_left
    intro i _
    first | lia | omega
theorem slice_nat (x : Str) {a b : Nat} (h : a ≤ b) (h' : b ≤ x.cps.size) : Txt.slice x (some (a : Int)) (some (b : Int)) = ⟨x.cps.extract a b⟩ := by
  have e : strSliceIndices (some (a : Int)) (some (b : Int)) 1 x.length = (List.range (b - a)).map fun i => a + i := by
    show sliceRange (max (0 : Int) (min (if (a : Int) < 0 then (a : Int) + (x.cps.size : Int) else a) (x.cps.size : Int))) (max (0 : Int) (min (if (b : Int) < 0 then (b : Int) + (x.cps.size : Int) else b) (x.cps.size : Int))) 1 = _
    have m1 : max (0 : Int) (min (if (a : Int) < 0 then (a : Int) + (x.cps.size : Int) else a) (x.cps.size : Int)) = a := by rw [if_neg (by first | lia | omega)]; first | lia | omega
    have m2 : max (0 : Int) (min (if (b : Int) < 0 then (b : Int) + (x.cps.size : Int) else b) (x.cps.size : Int)) = b := by rw [if_neg (by first | lia | omega)]; first | lia | omega
    rw [m1, m2, sliceRange_nat h]
  unfold Txt.slice
  rw [e]
  split
  · rename_i q
    have : b - a = x.length := by simpa using q
    have hx : x.length = x.cps.size := rfl
    have e1 : a = 0 := by first | lia | omega
    have e2 : b = x.cps.size := by first | lia | omega
    subst e1 e2
    cases x; simp
  · congr 1
    apply Array.ext'
    rw [range_filterMap _ _ _ (by first | lia | omega), show a + (b - a) = b by first | lia | omega]
theorem slice_tail (x : Str) (h : 1 ≤ x.cps.size) : Txt.slice x (some 1) none = ⟨x.cps.extract 1 x.cps.size⟩ := by
  rw [← slice_nat x h (Nat.le_refl _)]
  have e : strSliceIndices (some (1 : Int)) none 1 x.length = strSliceIndices (some ((1 : Nat) : Int)) (some (x.cps.size : Int)) 1 x.length := by
    show sliceRange _ (x.cps.size : Int) 1 = sliceRange _ (max (0 : Int) (min (if (x.cps.size : Int) < 0 then (x.cps.size : Int) + (x.cps.size : Int) else x.cps.size) (x.cps.size : Int))) 1
    have m2 : max (0 : Int) (min (if (x.cps.size : Int) < 0 then (x.cps.size : Int) + (x.cps.size : Int) else x.cps.size) (x.cps.size : Int)) = x.cps.size := by rw [if_neg (by first | lia | omega)]; first | lia | omega
    rw [m2]
    rfl
  unfold Txt.slice
  rw [e]
abbrev ch1 (c : Nat) : Str := ⟨#[c]⟩
theorem extract_one (x : Array Nat) {p : Nat} (h : p < x.size) : x.extract p (p + 1) = #[x.getD p 0] := by
  apply Array.ext'
  rw [Array.toList_extract, List.extract_eq_take_drop, List.drop_eq_getElem_cons (by simpa using h), show p + 1 - p = 0 + 1 by first | lia | omega, List.take_succ_cons, List.take_zero]
  simp [h]
theorem slice_one (x : Str) {p : Nat} (h : p < x.cps.size) : Txt.slice x (some (p : Int)) (some ((p : Int) + 1)) = ch1 (x.cps.getD p 0) := by
  have := slice_nat x (a := p) (b := p + 1) (by first | lia | omega) (by first | lia | omega)
  rw [extract_one _ h] at this
  exact this
theorem slice_last (x : Str) {p : Nat} (h : p + 1 = x.cps.size) : Txt.slice x (some (p : Int)) (some (x.length : Int)) = ch1 (x.cps.getD p 0) := by
  have := slice_one x (p := p) (by first | lia | omega)
  rw [← this]
  have e : ((p : Int) + 1) = (x.length : Int) := by show _ = (x.cps.size : Int); first | lia | omega
  rw [e]
/-- a one-sign text in another -/
theorem contains_ch (x : Str) (c : Nat) : Txt.contains x (ch1 c) = decide (c ∈ x.cps.toList) := StrLaws.found_one x c
end Mine
namespace Mine
theorem w1_Sr : True := by
  k_with_none
  (k_with "k_room" => first | exact Nat.le_of_ble_eq_true rfl | exact rm (b := 1) hdp (by decide) | exact rm (b := 2) hdp (by decide) | exact rm (b := 3) hdp (by decide) | exact rm (b := 4) hdp (by decide) | exact rm (b := 5) hdp (by decide) | exact rm (b := 6) hdp (by decide) | exact rm (b := 7) hdp (by decide) | exact rm (b := 8) hdp (by decide) | exact rm (b := 9) hdp (by decide) | exact rm (b := 10) hdp (by decide) | exact rm (b := 11) hdp (by decide) | exact rm (b := 12) hdp (by decide) | exact rm (b := 13) hdp (by decide) | exact rm (b := 14) hdp (by decide) | exact rm (b := 15) hdp (by decide) | exact rm (b := 16) hdp (by decide) | exact rm (b := 17) hdp (by decide) | exact rm (b := 18) hdp (by decide) | exact rm (b := 19) hdp (by decide) | exact rm (b := 20) hdp (by decide) | exact rm (b := 21) hdp (by decide) | exact rm (b := 22) hdp (by decide) | exact rm (b := 23) hdp (by decide) | exact rm (b := 24) hdp (by decide) | exact rm (b := 25) hdp (by decide) | exact rm (b := 1) hu (by decide) | exact rm (b := 3) hu (by decide) | exact rm (b := 4) hu (by decide) | exact rm (b := 7) hu (by decide) | exact rm (b := 19) hu (by decide) | exact rm (b := 23) hu (by decide) | exact rm (b := 35) hu (by decide) | exact rm (b := 39) hu (by decide) | exact rm (b := 51) hu (by decide) | exact rm (b := 55) hu (by decide) | exact rm (b := 64) hu (by decide) | exact rm (b := 67) hu (by decide) | exact rm (b := 71) hu (by decide) | exact rm (b := 83) hu (by decide) | exact rm (b := 87) hu (by decide) | exact rm (b := 99) hu (by decide) | exact rm (b := 103) hu (by decide) | exact rm (b := 115) hu (by decide) | exact rm (b := 119) hu (by decide) | exact rm (b := 131) hu (by decide) | exact rm (b := 135) hu (by decide) | exact rm (b := 147) hu (by decide) | exact rm (b := 151) hu (by decide) | exact rm (b := 163) hu (by decide) | exact rm (b := 167) hu (by decide) | exact rm (b := 179) hu (by decide) | exact rm (b := 183) hu (by decide) | exact rm (b := 195) hu (by decide) | exact rm (b := 199) hu (by decide) | exact rm (b := 211) hu (by decide) | exact rm (b := 215) hu (by decide) | exact rm (b := 227) hu (by decide) | exact rm (b := 231) hu (by decide) | exact rm (b := 243) hu (by decide) | exact rm (b := 247) hu (by decide) | exact rm (b := 259) hu (by decide) | exact rm (b := 263) hu (by decide) | exact rm (b := 275) hu (by decide) | exact rm (b := 279) hu (by decide) | exact rm (b := 291) hu (by decide) | exact rm (b := 295) hu (by decide) | exact rm (b := 307) hu (by decide) | exact rm (b := 311) hu (by decide) | exact rm (b := 323) hu (by decide) | exact rm (b := 327) hu (by decide) | exact rm (b := 339) hu (by decide) | exact rm (b := 343) hu (by decide) | exact rm (b := 355) hu (by decide) | exact rm (b := 371) hu (by decide) | exact rm (b := 387) hu (by decide) | ktr_room | ktr_units)
  (k_with "execs cons" => (k_here; k_fold))
  (k_with "execs cons" => (k_here; refine gen_tk ?_; intro tk8))
  (k_with "eval Constant str" => (k_here; refine const_str ?_; intro t8 tk8))
  (k_with "eval Constant int" => (k_here; refine const_int ?_; intro t8 tk8))
  (k_with "cell_enter" => (refine' code_def ?k1 ?k2 ?k3 ?k4 ?k5 ?kA ?kF ?kK ?k6 ?k7 ?k8 ?k9 ?kB ?_ ?c2 ?c3 ?c4 ?c5; (case kA => exact rfl); (case kF => exact rfl); (case kK => assumption); (case k1 => k_asm); (case k2 => k_asm); (case k3 => k_asm); (case k4 => k_asm); (case k5 => k_asm); (case k6 => k_is); (case k7 => k_is); (case k8 => k_room); (case k9 => first | exact BindsTo.of_eq rfl | exact binds_K (by k_in) rfl (by k_is) rfl rfl rfl | exact kp_binds (by k_in) (fun _ => by kernel_rfl)); (case c5 => decide); (case kB => exact locs rfl); (case c2 => exact rfl); (case c3 => exact rfl); (case c4 => exact rfl); k_whole; intro g' L' h' FG' F' N' B' X' T'; (try dsimp only); (try k_lift B'); (try k_fold)))
  trivial
abbrev ent (w : World) (n : String) (t : Tok) (v : Value) : DictEntry := ⟨PyData.keyHash w.params (Str.ofString n), .str (Str.ofString n) t, v⟩
abbrev sioD (w : World) (t1 t2 t3 t4 t5 t6 : Tok) (x : Str) (p : Int) : Obj := dictOf [ent w "_StringIO__newline" t1 (.str (Str.ofString "\n") t2), ent w "_StringIO__buf" t3 (.str x t4), ent w "_StringIO__pos" t5 (.int p t6)] 3
abbrev inst (C d : Addr) : Obj := ⟨.ref C, some d, .plain, #[]⟩
theorem w2_Sr : True := by
  (k_with "k_upd" => exact Upd.head (by assumption))
  trivial
theorem read_c (w : World) (sio dsio : Addr) (rest : List (Addr × Obj)) (hr : ∀ q ∈ (sio, inst 609 dsio) :: rest, q.1 ≠ dsio) (t t1 t2 t3 t4 t5 t6 : Tok) (x : Str) (p : Nat) : MyCl w 555 8 ((dsio, sioD w t1 t2 t3 t4 t5 t6 x p) :: (sio, inst 609 dsio) :: rest) (x.length ≤ 10000 ∧ p < x.length) [Value.ref sio, Value.int 1 t]
    (fun h₀ L m s Q => ∀ (t : Tok) (t6' : Tok) (h' : Heap) (tk' : Nat), Fr h₀ L h' m → News h₀ L h' ((dsio, sioD w t1 t2 t3 t4 t5 t6' x ((p + 1 : Nat) : Int)) :: (sio, inst 609 dsio) :: rest) → Q (.str (ch1 (x.cps.getD p 0)) t) { s with heap := h', toks := tk' }) := by
  dsimp only [MyCl]; k_fill; intros; rename_i hdp hu hret
  refine wpAny_call ?_
  k_dflt cell_enter
  refine let_A ?_
  intro A1
  k_steps
  · rw [slice_one x (by show p < x.length; omega)]
    exact hret _ _ _ _ (by k_asm) (by k_asm)
  · have e : p + 1 = x.cps.size := by show p + 1 = x.length; omega
    rw [slice_last x e]
    have e' : ((p + 1 : Nat) : Int) = (x.length : Int) := by omega
    rw [e'] at hret
    exact hret _ _ _ _ (by k_asm) (by k_asm)
theorem read_eof (w : World) (sio dsio : Addr) (rest : List (Addr × Obj)) (hr : ∀ q ∈ (sio, inst 609 dsio) :: rest, q.1 ≠ dsio) (t t1 t2 t3 t4 t5 t6 : Tok) (x : Str) (p : Nat) : MyCl w 555 8 ((dsio, sioD w t1 t2 t3 t4 t5 t6 x p) :: (sio, inst 609 dsio) :: rest) (x.length ≤ 10000 ∧ p = x.length) [Value.ref sio, Value.int 1 t]
    (rStr ((dsio, sioD w t1 t2 t3 t4 t5 t6 x p) :: (sio, inst 609 dsio) :: rest) (Str.ofString "")) := by
  dsimp only [MyCl, rStr]; k_fill; intros; rename_i hdp hu hret
  refine wpAny_call ?_
  k_dflt cell_enter
  refine let_A ?_
  intro A1
  k_steps
  all_goals exact hret _ _ _ (by k_asm) (by k_asm)
end Mine
theorem Mine.wend_Sr : True := by
  k_with_none
  trivial
namespace Mine
/-- the next sign, if there is one, is of the other class -/
def HN (b : Bool) (r : List Nat) : Prop := ∀ d, r.head? = some d → isEnd d = !b
/-- a text cut into runs -/
inductive Runs : List Nat → List (List Nat) → Prop
  | nil : Runs [] []
  | cons {a r : List Nat} {b : Bool} {ts : List (List Nat)} : a ≠ [] → (∀ c ∈ a, isEnd c = b) → HN b r → Runs r ts → Runs (a ++ r) (a :: ts)
def wordF (t : List Nat) : List Nat := if t.head? = some 46 then t.tail else t
def isRun (t : List Nat) : Bool := match t with | [] => false | c :: _ => isEnd c
def crlfs : Nat → List Nat | 0 => [] | n + 1 => 13 :: 10 :: crlfs n
def sentF (t : List Nat) : List Nat := if isRun t = true then crlfs (t.length / 2) else if (wordF t).head? = some 46 then 46 :: wordF t else wordF t
def ends3 : List (List Nat) := [[10], [13], [13, 10]]
def mulE (ts : List (List Nat)) : List (List Nat) := ts.flatMap fun t => ends3.map fun e => t ++ e
def iterE : Nat → List (List Nat) → List (List Nat) | 0, ts => ts | n + 1, ts => iterE n (mulE ts)
def textsStep (ts : List (List Nat)) (t : List Nat) : List (List Nat) := if isRun t = true then iterE (t.length / 2) ts else ts.map fun x => x ++ wordF t
def textsF (toks : List (List Nat)) : List (List Nat) := toks.foldl textsStep [[]]
def seqs (n : Nat) : List (List Nat) := iterE n [[]]
def opts (t : List Nat) : List (List Nat) := if isRun t = true then seqs (t.length / 2) else [wordF t]
def conts : List (List Nat) → List (List Nat) | [] => [[]] | t :: ts => (opts t).flatMap fun o => (conts ts).map fun r => o ++ r
def gopts (t : List Nat) : List (List Nat) := if isRun t = true then (seqs (t.length / 2)).filter (fun o => norm o == crlfs (t.length / 2)) else [wordF t]
def gconts : List (List Nat) → List (List Nat) | [] => [[]] | t :: ts => (gopts t).flatMap fun o => (gconts ts).map fun r => o ++ r
/-- unorderable_list_difference, the first list from behind -/
def uld : List Int → List Int → List Int → List Int × List Int
  | [], act, mis => (mis, act)
  | e :: es, act, mis => if e ∈ act then uld es (act.erase e) mis else uld es act (mis ++ [e])
def longer (sizes : List Int) : List Int := sizes.flatMap fun s => [s + 1, s + 1, s + 2]
def szStep (p : List Int × List Int) : List Int × List Int := (p.2, (uld (longer p.2).reverse (p.1.map fun s => s + 2) []).1)
def szIter : Nat → List Int × List Int → List Int × List Int | 0, p => p | n + 1, p => szIter n (szStep p)
def sizesF (n : Nat) : List Int := (szIter n ([], [0])).2
def secIter : Nat → Int × Int → Int × Int | 0, p => p | n + 1, p => secIter n (p.1 + p.2, p.1 + p.2 + p.2)
def secondF (n : Nat) : Int := (secIter n (1, 1)).2
def partsF (t : List Nat) : List Int := if isRun t = true then sizesF (t.length / 2) else [((wordF t).length : Int)]
def sizesStep (sz : List Int) (t : List Nat) : List Int := sz.flatMap fun s => (partsF t).map fun p => s + p
def countStep (c : Int) (t : List Nat) : Int := if isRun t = true then c * secondF (t.length / 2) else c

theorem iterE_flat : ∀ (n : Nat) (ts : List (List Nat)), iterE n ts = ts.flatMap fun t => (seqs n).map fun o => t ++ o
  | 0, ts => by simp [iterE, seqs]
  | n + 1, ts => by
    show iterE n (mulE ts) = ts.flatMap fun t => (iterE n (mulE [[]])).map fun o => t ++ o
    rw [iterE_flat n (mulE ts), iterE_flat n (mulE [[]]), mulE, mulE, List.flatMap_assoc]
    simp only [List.flatMap_cons, List.flatMap_nil, List.append_nil, List.flatMap_map, List.map_flatMap, List.map_map, List.nil_append]
    congr 1
    funext t
    simp [ends3, Function.comp_def]
theorem seqs_succ (n : Nat) : seqs (n + 1) = ends3.flatMap fun e => (seqs n).map fun o => e ++ o := by
  show iterE n (mulE [[]]) = _
  rw [iterE_flat]
  simp [mulE]
theorem textsF_aux : ∀ (toks acc : List (List Nat)), toks.foldl textsStep acc = acc.flatMap fun a => (conts toks).map fun r => a ++ r
  | [], acc => by simp [conts]
  | t :: ts, acc => by
    rw [List.foldl_cons, textsF_aux ts, textsStep, conts, opts]
    by_cases h : isRun t = true
    · rw [if_pos h, if_pos h, iterE_flat, List.flatMap_assoc]
      congr 1
      funext a
      rw [List.flatMap_map, List.map_flatMap]
      congr 1
      funext o
      simp
    · rw [if_neg h, if_neg h, List.flatMap_map]
      congr 1
      funext a
      simp
theorem textsF_conts (toks : List (List Nat)) : textsF toks = conts toks := by
  rw [textsF, textsF_aux]; simp
theorem span_unique {b : Bool} : ∀ {a a' r r' : List Nat}, (∀ c ∈ a, isEnd c = b) → (∀ c ∈ a', isEnd c = b) → HN b r → HN b r' → a ++ r = a' ++ r' → a = a' ∧ r = r'
  | [], [], r, r', _, _, _, _, e => ⟨rfl, e⟩
  | [], c :: a', r, r', _, h2, h3, _, e => by
    have e' : r = c :: (a' ++ r') := e
    have := h3 c (by rw [e']; rfl)
    rw [h2 c (.head _)] at this
    cases b <;> cases this
  | c :: a, [], r, r', h1, _, _, h4, e => by
    have e' : c :: (a ++ r) = r' := e
    have := h4 c (by rw [← e']; rfl)
    rw [h1 c (.head _)] at this
    cases b <;> cases this
  | c :: a, c' :: a', r, r', h1, h2, h3, h4, e => by
    have e' : c :: (a ++ r) = c' :: (a' ++ r') := e
    injection e' with e1 e2
    subst e1
    obtain ⟨q1, q2⟩ := span_unique (fun x hx => h1 x (.tail _ hx)) (fun x hx => h2 x (.tail _ hx)) h3 h4 e2
    exact ⟨by rw [q1], q2⟩
theorem span_ex : ∀ (T : List Nat) (b : Bool), ∃ o T', T = o ++ T' ∧ (∀ c ∈ o, isEnd c = b) ∧ HN b T'
  | [], b => ⟨[], [], rfl, (fun _ h => nomatch h), (fun _ h => nomatch h)⟩
  | c :: T, b => by
    by_cases h : isEnd c = b
    · obtain ⟨o, T', e, h1, h2⟩ := span_ex T b
      refine ⟨c :: o, T', by rw [e]; rfl, ?_, h2⟩
      intro x hx
      cases hx with
      | head => exact h
      | tail _ hx => exact h1 x hx
    · refine ⟨[], c :: T, rfl, (fun _ h => nomatch h), ?_⟩
      intro d hd
      cases hd
      revert h
      cases isEnd c <;> cases b <;> simp
theorem crlfs_end : ∀ (n : Nat), ∀ c ∈ crlfs n, isEnd c = true
  | 0, _, h => nomatch h
  | n + 1, c, h => by
    cases h with
    | head => rfl
    | tail _ h => cases h with
      | head => rfl
      | tail _ h => exact crlfs_end n c h
theorem crlfs_len : ∀ n, (crlfs n).length = 2 * n
  | 0 => rfl
  | n + 1 => by simp [crlfs, crlfs_len n]; (first | lia | omega)
theorem crlfs_inj {n k : Nat} (h : crlfs n = crlfs k) : n = k := by
  have := congrArg List.length h
  rw [crlfs_len, crlfs_len] at this; (first | lia | omega)
theorem crlfs_run {n : Nat} (h : 1 ≤ n) : isRun (crlfs n) = true := by
  cases n with | zero => omega | succ n => rfl
theorem crlfs_half (n : Nat) : (crlfs n).length / 2 = n := by rw [crlfs_len]; (first | lia | omega)
theorem HN.ne10 {r : List Nat} (h : HN true r) : r.head? ≠ some 10 := fun e => by have := h 10 e; cases this
theorem norm_ends : ∀ (k : Nat) (o : List Nat), o.length ≤ k → (∀ c ∈ o, isEnd c = true) → ∃ n, (∀ r, HN true r → norm (o ++ r) = crlfs n ++ norm r) ∧ o ∈ seqs n ∧ (o ≠ [] → 1 ≤ n)
  | _, [], _, _ => ⟨0, fun _ _ => rfl, by simp [seqs, iterE], fun h => absurd rfl h⟩
  | k + 1, c :: o, hk, ho => by
    have hc : c = 10 ∨ c = 13 := by have := ho c (.head _); simpa [isEnd] using this
    have ho' : ∀ x ∈ o, isEnd x = true := fun x hx => ho x (.tail _ hx)
    have hk' : o.length ≤ k := by simpa using hk
    rcases hc with rfl | rfl
    · obtain ⟨n, e1, e2, e3⟩ := norm_ends k o hk' ho'
      refine ⟨n + 1, fun r hr => by rw [List.cons_append, norm_lf, e1 r hr]; rfl, ?_, fun _ => by (first | lia | omega)⟩
      rw [seqs_succ, List.mem_flatMap]
      exact ⟨[10], by simp [ends3], List.mem_map.mpr ⟨o, e2, rfl⟩⟩
    · match o, ho', hk' with
      | 10 :: o, ho', hk' =>
        obtain ⟨n, e1, e2, e3⟩ := norm_ends k o (by simp at hk'; (first | lia | omega)) (fun x hx => ho' x (.tail _ hx))
        refine ⟨n + 1, fun r hr => by rw [List.cons_append, List.cons_append, norm_crlf, e1 r hr]; rfl, ?_, fun _ => by (first | lia | omega)⟩
        rw [seqs_succ, List.mem_flatMap]
        exact ⟨[13, 10], by simp [ends3], List.mem_map.mpr ⟨o, e2, rfl⟩⟩
      | [], ho', hk' =>
        refine ⟨1, fun r hr => by rw [List.cons_append, List.nil_append, norm_cr hr.ne10]; rfl, by decide, fun _ => Nat.le_refl _⟩
      | 13 :: o, ho', hk' =>
        obtain ⟨n, e1, e2, e3⟩ := norm_ends k (13 :: o) hk' ho'
        refine ⟨n + 1, fun r hr => by rw [List.cons_append, norm_cr (by simp), e1 r hr]; rfl, ?_, fun _ => by (first | lia | omega)⟩
        rw [seqs_succ, List.mem_flatMap]
        exact ⟨[13], by simp [ends3], List.mem_map.mpr ⟨13 :: o, e2, rfl⟩⟩
      | (c + 14) :: o, ho', hk' =>
        have := ho' (c + 14) (.head _)
        simp [isEnd] at this
      | 11 :: o, ho', hk' | 12 :: o, ho', hk' | 0 :: o, ho', hk' | 1 :: o, ho', hk' | 2 :: o, ho', hk' | 3 :: o, ho', hk' | 4 :: o, ho', hk' | 5 :: o, ho', hk' | 6 :: o, ho', hk' | 7 :: o, ho', hk' | 8 :: o, ho', hk' | 9 :: o, ho', hk' =>
        have := ho' _ (.head _)
        simp [isEnd] at this
theorem seqs_ends : ∀ (n : Nat), ∀ o ∈ seqs n, (∀ c ∈ o, isEnd c = true) ∧ (1 ≤ n → o ≠ [])
  | 0, o, h => by
    have : o = [] := by simpa [seqs, iterE] using h
    subst this
    exact ⟨(fun _ h => nomatch h), fun h => absurd h (by (first | lia | omega))⟩
  | n + 1, o, h => by
    rw [seqs_succ, List.mem_flatMap] at h
    obtain ⟨e, he, h⟩ := h
    obtain ⟨o', ho', rfl⟩ := List.mem_map.mp h
    obtain ⟨q, _⟩ := seqs_ends n o' ho'
    have he' : e = [10] ∨ e = [13] ∨ e = [13, 10] := by simpa [ends3] using he
    rcases he' with rfl | rfl | rfl
    · exact ⟨fun c hc => by cases hc with | head => rfl | tail _ hc => exact q c hc, fun _ => by simp⟩
    · exact ⟨fun c hc => by cases hc with | head => rfl | tail _ hc => exact q c hc, fun _ => by simp⟩
    · exact ⟨fun c hc => by
        cases hc with
        | head => rfl
        | tail _ hc => cases hc with
          | head => rfl
          | tail _ hc => exact q c hc, fun _ => by simp⟩
theorem stuff_crlfs : ∀ (n : Nat) (r : List Nat), stuff true (crlfs n ++ r) = crlfs n ++ stuff true r
  | 0, r => rfl
  | n + 1, r => by
    show stuff true (13 :: 10 :: (crlfs n ++ r)) = 13 :: 10 :: (crlfs n ++ stuff true r)
    rw [stuff, if_neg (by decide), stuff, if_neg (by decide), ← stuff_crlfs n r]
    rfl
/-- a word as it is sent -/
def st (o : List Nat) : List Nat := if o.head? = some 46 then 46 :: o else o
theorem stuff_inner : ∀ (o r : List Nat), (∀ c ∈ o, isEnd c = false) → stuff false (o ++ r) = o ++ stuff false r
  | [], r, _ => rfl
  | c :: o, r, h => by
    have hc : (c == 10) = false := by
      have := h c (.head _)
      simp [isEnd] at this
      simpa using this.1
    rw [List.cons_append, stuff, if_neg (by simp), hc, stuff_inner o r fun x hx => h x (.tail _ hx), List.cons_append]
theorem stuff_word {o : List Nat} (r : List Nat) (h : ∀ c ∈ o, isEnd c = false) (hne : o ≠ []) : stuff true (o ++ r) = st o ++ stuff false r := by
  cases o with
  | nil => exact absurd rfl hne
  | cons c o =>
    have ho : ∀ x ∈ o, isEnd x = false := fun x hx => h x (.tail _ hx)
    by_cases h46 : c = 46
    · subst h46
      rw [List.cons_append, stuff, if_pos (by decide), stuff_inner o r ho]
      rfl
    · have hc : (c == 10) = false := by
        have := h c (.head _)
        simp [isEnd] at this
        simpa using this.1
      rw [List.cons_append, stuff, if_neg (by simp [h46]), hc, stuff_inner o r ho, st, if_neg (by simpa using h46), List.cons_append]
theorem stuff_flag {r : List Nat} (h : r.head? ≠ some 46) : stuff false r = stuff true r := by
  cases r with
  | nil => rfl
  | cons c r =>
    have : c ≠ 46 := by simpa using h
    rw [stuff, stuff, if_neg (by simp), if_neg (by simp [this])]
theorem norm_head {r : List Nat} (h : HN false r) : (norm r).head? ≠ some 46 := by
  cases r with
  | nil => simp [norm]
  | cons c r =>
    have hc : c = 10 ∨ c = 13 := by have := h c rfl; simpa [isEnd] using this
    rcases hc with rfl | rfl
    · rw [norm_lf]; simp
    · by_cases q : r.head? = some 10
      · cases r with
        | nil => cases q
        | cons d r =>
          have : d = 10 := by simpa using q
          subst this
          rw [norm_crlf]; simp
      · rw [norm_cr q]; simp
theorem qd_word {o r : List Nat} (h : ∀ c ∈ o, isEnd c = false) (hne : o ≠ []) (hr : HN false r) : qd (o ++ r) = st o ++ qd r := by
  rw [qd, norm_skip o r h, stuff_word _ h hne, stuff_flag (norm_head hr), qd]
theorem qd_ends {o : List Nat} (h : ∀ c ∈ o, isEnd c = true) : ∃ n, (∀ r, HN true r → qd (o ++ r) = crlfs n ++ qd r) ∧ (∀ r, HN true r → norm (o ++ r) = crlfs n ++ norm r) ∧ norm o = crlfs n ∧ o ∈ seqs n ∧ (o ≠ [] → 1 ≤ n) := by
  obtain ⟨n, e1, e2, e3⟩ := norm_ends _ o (Nat.le_refl _) h
  have f1 := e1 [] (fun _ h => nomatch h)
  refine ⟨n, fun r hr => by rw [qd, e1 r hr, stuff_crlfs, qd], e1, by simpa [norm] using f1, e2, e3⟩
/-- the class of the first sign -/
def cls (r : List Nat) : Option Bool := r.head?.map isEnd
theorem HN.of_cls {b : Bool} {r : List Nat} (h : cls r ≠ some b) : HN b r := by
  intro d hd
  unfold cls at h
  rw [hd] at h
  have h' : isEnd d ≠ b := by simpa using h
  revert h'
  cases b <;> cases isEnd d <;> simp
theorem cls_of_HN {b : Bool} {r : List Nat} (h : HN b r) : cls r ≠ some b := by
  intro e
  unfold cls at e
  cases hr : r.head? with
  | none => rw [hr] at e; cases e
  | some d =>
    rw [hr] at e
    have := h d hr
    have e' : isEnd d = b := by simpa using e
    rw [e'] at this
    cases b <;> cases this
theorem st_ends {o : List Nat} (h : ∀ c ∈ o, isEnd c = false) : ∀ c ∈ st o, isEnd c = false := by
  unfold st
  split
  · intro c hc
    cases hc with
    | head => rfl
    | tail _ hc => exact h c hc
  · exact h
theorem st_ne {o : List Nat} (h : o ≠ []) : st o ≠ [] := by
  unfold st; split
  · simp
  · exact h
theorem cls_all {a r : List Nat} {b : Bool} (hne : a ≠ []) (h : ∀ c ∈ a, isEnd c = b) : cls (a ++ r) = some b := by
  cases a with
  | nil => exact absurd rfl hne
  | cons c a => show some (isEnd c) = _; rw [h c (.head _)]
theorem word_st {o : List Nat} (h : o ≠ []) : wordF (st o) = o := by
  unfold st wordF
  by_cases q : o.head? = some 46
  · rw [if_pos q, if_pos (by rfl)]; rfl
  · rw [if_neg q, if_neg q]
theorem isRun_cls (t : List Nat) : isRun t = true ↔ cls t = some true := by
  cases t with
  | nil => simp [isRun, cls]
  | cons c t => simp [isRun, cls]
theorem isRun_st {o : List Nat} (h : ∀ c ∈ o, isEnd c = false) (hne : o ≠ []) : isRun (st o) = false := by
  have := cls_all (r := []) (st_ne hne) (st_ends h)
  rw [List.append_nil] at this
  cases q : isRun (st o) with
  | false => rfl
  | true => rw [isRun_cls, this] at q; cases q
/-- how the tokens of what was sent look; e ends in all -/
inductive Shape : Nat → List (List Nat) → Prop
  | nil : Shape 0 []
  | word {e : Nat} {o : List Nat} {ts : List (List Nat)} : o ≠ [] → (∀ c ∈ o, isEnd c = false) → HN false ts.flatten → Shape e ts → Shape e (st o :: ts)
  | run {e n : Nat} {ts : List (List Nat)} : 1 ≤ n → HN true ts.flatten → Shape e ts → Shape (n + e) (crlfs n :: ts)
theorem Runs.flat {S : List Nat} {ts : List (List Nat)} (h : Runs S ts) : ts.flatten = S := by
  induction h with
  | nil => rfl
  | cons _ _ _ _ ih => rw [List.flatten_cons, ih]
def lfs (l : List Nat) : Nat := l.count 10
theorem lfs_crlfs : ∀ (n : Nat), lfs (crlfs n) = n
  | 0 => rfl
  | n + 1 => by have := lfs_crlfs n; unfold lfs at *; rw [crlfs, List.count_cons, List.count_cons, this]; simp
theorem lfs_word {o : List Nat} (h : ∀ c ∈ o, isEnd c = false) : lfs o = 0 := by
  unfold lfs
  rw [List.count_eq_zero]
  intro q
  have := h 10 q
  cases this
theorem qd_nil {T : List Nat} (h : qd T = []) : T = [] := by
  cases T with
  | nil => rfl
  | cons c T =>
    exfalso
    obtain ⟨o, T', e, h1, h2⟩ := span_ex (c :: T) (isEnd c)
    have ho : o ≠ [] := by
      intro q
      subst q
      have e' : c :: T = T' := e
      have := h2 c (by rw [← e']; rfl)
      cases hc : isEnd c <;> rw [hc] at this <;> cases this
    rw [e] at h
    cases hc : isEnd c with
    | false =>
      rw [hc] at h1 h2
      rw [qd_word h1 ho h2] at h
      exact st_ne ho (List.append_eq_nil_iff.mp h).1
    | true =>
      rw [hc] at h1 h2
      obtain ⟨n, e1, _, _, _, e3⟩ := qd_ends h1
      rw [e1 _ h2] at h
      have := e3 ho
      have q := (List.append_eq_nil_iff.mp h).1
      cases n with
      | zero => omega
      | succ n => cases q
theorem HN.nil {b : Bool} : HN b [] := fun _ h => nomatch h
theorem qd_cls {T : List Nat} : cls (qd T) = cls T := by
  cases T with
  | nil => rfl
  | cons c T =>
    obtain ⟨o, T', e, h1, h2⟩ := span_ex (c :: T) (isEnd c)
    have ho : o ≠ [] := by
      intro q
      subst q
      have e' : c :: T = T' := e
      have := h2 c (by rw [← e']; rfl)
      cases hc : isEnd c <;> rw [hc] at this <;> cases this
    rw [e, cls_all ho h1]
    cases hc : isEnd c with
    | false =>
      rw [hc] at h1 h2
      rw [qd_word h1 ho h2, cls_all (st_ne ho) (st_ends h1)]
    | true =>
      rw [hc] at h1 h2
      obtain ⟨n, e1, _, _, _, e3⟩ := qd_ends h1
      rw [e1 _ h2]
      have := e3 ho
      refine cls_all ?_ (crlfs_end n)
      intro q
      cases n with
      | zero => omega
      | succ n => cases q
theorem main_shape {S : List Nat} {ts : List (List Nat)} (h : Runs S ts) : ∀ T, qd T = S → Shape (lfs (norm T)) ts ∧ T ∈ conts ts := by
  induction h with
  | nil =>
    intro T hT
    have := qd_nil hT
    subst this
    exact ⟨.nil, by simp [conts]⟩
  | @cons a r b ts hne ha hr hR ih =>
    intro T hT
    obtain ⟨o, T', e, h1, h2⟩ := span_ex T b
    have hc : cls T = some b := by rw [← qd_cls, hT, cls_all hne ha]
    have ho : o ≠ [] := by
      intro q
      subst q
      have e' : T = T' := e
      rw [e'] at hc
      exact cls_of_HN h2 hc
    have hflat : ts.flatten = r := hR.flat
    cases b with
    | false =>
      rw [e, qd_word h1 ho h2] at hT
      obtain ⟨q1, q2⟩ := span_unique (st_ends h1) ha (HN.of_cls (by rw [qd_cls]; exact cls_of_HN h2)) hr hT
      obtain ⟨i1, i2⟩ := ih T' q2
      subst q1
      have en : norm T = o ++ norm T' := by rw [e, norm_skip o T' h1]
      refine ⟨?_, ?_⟩
      · have : lfs (norm T) = lfs (norm T') := by
          rw [en]; unfold lfs; rw [List.count_append]
          have := lfs_word h1
          unfold lfs at this
          first | lia | omega
        rw [this]
        exact .word ho h1 (by rw [hflat]; exact hr) i1
      · rw [conts, opts, if_neg (by rw [isRun_st h1 ho]; simp), word_st ho, e]
        simp only [List.flatMap_cons, List.flatMap_nil, List.append_nil]
        exact List.mem_map.mpr ⟨T', i2, rfl⟩
    | true =>
      obtain ⟨n, e1, e2, e3, e4, e5⟩ := qd_ends h1
      rw [e, e1 _ h2] at hT
      obtain ⟨q1, q2⟩ := span_unique (crlfs_end n) ha (HN.of_cls (by rw [qd_cls]; exact cls_of_HN h2)) hr hT
      obtain ⟨i1, i2⟩ := ih T' q2
      subst q1
      have hn := e5 ho
      refine ⟨?_, ?_⟩
      · have : lfs (norm T) = n + lfs (norm T') := by
          rw [e, e2 _ h2]
          have := lfs_crlfs n
          unfold lfs at *
          rw [List.count_append, this]
        rw [this]
        exact .run hn (by rw [hflat]; exact hr) i1
      · rw [conts, opts, if_pos (crlfs_run hn), crlfs_half, e, List.mem_flatMap]
        exact ⟨o, e4, List.mem_map.mpr ⟨T', i2, rfl⟩⟩
theorem Shape.cls_cont {e : Nat} {ts : List (List Nat)} (h : Shape e ts) : ∀ r ∈ conts ts, cls r = cls ts.flatten := by
  cases h with
  | nil => intro r hr; have : r = [] := by simpa [conts] using hr
           subst this; rfl
  | @word _ o ts ho h1 h2 h3 =>
    intro r hr
    rw [conts, opts, if_neg (by rw [isRun_st h1 ho]; simp), word_st ho] at hr
    simp only [List.flatMap_cons, List.flatMap_nil, List.append_nil] at hr
    obtain ⟨r', _, rfl⟩ := List.mem_map.mp hr
    rw [cls_all ho h1, List.flatten_cons, cls_all (st_ne ho) (st_ends h1)]
  | @run _ n ts hn h2 h3 =>
    intro r hr
    rw [conts, opts, if_pos (crlfs_run hn), crlfs_half, List.mem_flatMap] at hr
    obtain ⟨o, ho, hr⟩ := hr
    obtain ⟨r', _, rfl⟩ := List.mem_map.mp hr
    obtain ⟨q1, q2⟩ := seqs_ends n o ho
    rw [cls_all (q2 hn) q1, List.flatten_cons, cls_all _ (crlfs_end n)]
    intro q
    cases n with
    | zero => omega
    | succ n => cases q
theorem filter_if {α : Type} (l : List α) (c : Bool) (p : α → Bool) : l.filter (fun x => c && p x) = if c = true then l.filter p else [] := by
  cases c <;> simp
theorem filter_flat {α : Type} (l : List α) (p : α → Bool) : l.filter p = l.flatMap fun x => if p x = true then [x] else [] := by
  induction l with
  | nil => rfl
  | cons x l ih =>
    rw [List.flatMap_cons, List.filter_cons, ih]
    cases p x <;> simp
theorem flatMap_congr' {α β : Type} {l : List α} {f g : α → List β} (h : ∀ x ∈ l, f x = g x) : l.flatMap f = l.flatMap g := by
  induction l with
  | nil => rfl
  | cons x l ih => rw [List.flatMap_cons, List.flatMap_cons, h x (.head _), ih fun y hy => h y (.tail _ hy)]
theorem told_good {e : Nat} {ts : List (List Nat)} (h : Shape e ts) : (conts ts).filter (fun b => qd b == ts.flatten) = gconts ts := by
  induction h with
  | nil => decide
  | @word _ o ts ho h1 h2 h3 ih =>
    have hr := isRun_st h1 ho
    rw [conts, gconts, opts, gopts, if_neg (by rw [hr]; simp), if_neg (by rw [hr]; simp), word_st ho]
    simp only [List.flatMap_cons, List.flatMap_nil, List.append_nil, List.filter_map]
    congr 1
    rw [← ih]
    apply List.filter_congr
    intro r hr
    have hc := h3.cls_cont r hr
    have hH : HN false r := HN.of_cls (by rw [hc]; exact cls_of_HN h2)
    show (qd (o ++ r) == _) = _
    rw [qd_word h1 ho hH, List.flatten_cons]
    rw [Bool.eq_iff_iff, beq_iff_eq, beq_iff_eq]
    exact ⟨fun q => List.append_cancel_left q, fun q => by rw [q]⟩
  | @run _ n ts hn h2 h3 ih =>
    rw [conts, gconts, opts, gopts, if_pos (crlfs_run hn), if_pos (crlfs_run hn), crlfs_half, List.filter_flatMap]
    rw [filter_flat (seqs n), List.flatMap_assoc]
    apply flatMap_congr'
    intro o ho
    obtain ⟨q1, q2⟩ := seqs_ends n o ho
    obtain ⟨k, e1, e2, e3, e4, e5⟩ := qd_ends q1
    rw [List.filter_map, e3]
    have key : (conts ts).filter ((fun b => qd b == (crlfs n :: ts).flatten) ∘ fun r => o ++ r) = (conts ts).filter (fun r => (crlfs k == crlfs n) && (qd r == ts.flatten)) := by
      apply List.filter_congr
      intro r hr
      have hc := h3.cls_cont r hr
      have hH : HN true r := HN.of_cls (by rw [hc]; exact cls_of_HN h2)
      show (qd (o ++ r) == _) = _
      rw [e1 r hH, List.flatten_cons]
      rw [Bool.eq_iff_iff, Bool.and_eq_true, beq_iff_eq, beq_iff_eq, beq_iff_eq]
      constructor
      · intro q
        exact span_unique (crlfs_end k) (crlfs_end n) (HN.of_cls (by rw [qd_cls, hc]; exact cls_of_HN h2)) h2 q
      · rintro ⟨q, q'⟩
        rw [q, q']
    rw [key, filter_if]
    split
    · rw [ih]; simp
    · simp
end Mine
namespace Mine
theorem sent_join {e : Nat} {ts : List (List Nat)} (h : Shape e ts) : (ts.map sentF).flatten = ts.flatten := by
  induction h with
  | nil => rfl
  | @word _ o ts ho h1 h2 h3 ih =>
    rw [List.map_cons, List.flatten_cons, List.flatten_cons, ih, sentF, if_neg (by rw [isRun_st h1 ho]; simp), word_st ho]
    rfl
  | @run _ n ts hn h2 h3 ih =>
    rw [List.map_cons, List.flatten_cons, List.flatten_cons, ih, sentF, if_pos (crlfs_run hn), crlfs_half]
def goods (n : Nat) : List (List Nat) := (seqs n).filter fun o => norm o == crlfs n
theorem goods_facts {n : Nat} (h1 : 1 ≤ n) (h3 : n ≤ 3) : (goods n).Nodup ∧ ((goods n).length : Int) = secondF n ∧ List.isPerm (sizesF n) ((goods n).map fun o => (o.length : Int)) = true := by
  have : n = 1 ∨ n = 2 ∨ n = 3 := by (first | lia | omega)
  rcases this with rfl | rfl | rfl <;> decide +kernel
theorem isPerm_imp {α : Type} [DecidableEq α] {l m : List α} (h : List.isPerm l m = true) : l.Perm m := List.isPerm_iff.mp h
/-- texts with a word or a run of one class behind them: nothing falls together -/
theorem app_inj {b : Bool} {a a' o o' : List Nat} (h1 : ∀ c ∈ o, isEnd c = b) (h2 : ∀ c ∈ o', isEnd c = b) (h3 : HN b a) (h4 : HN b a') (e : o ++ a = o' ++ a') : o = o' ∧ a = a' := span_unique h1 h2 h3 h4 e
theorem gconts_sub {ts : List (List Nat)} {e : Nat} (h : Shape e ts) : ∀ r ∈ gconts ts, r ∈ conts ts := by
  intro r hr
  rw [← told_good h] at hr
  exact (List.mem_filter.mp hr).1
theorem nodup_map' {α β : Type} {f : α → β} {l : List α} (h : l.Nodup) (hf : ∀ x ∈ l, ∀ y ∈ l, f x = f y → x = y) : (l.map f).Nodup := by
  induction l with
  | nil => exact List.nodup_nil
  | cons x l ih =>
    rw [List.nodup_cons] at h
    rw [List.map_cons, List.nodup_cons]
    refine ⟨?_, ih h.2 fun a ha b hb => hf a (.tail _ ha) b (.tail _ hb)⟩
    intro q
    obtain ⟨y, hy, e⟩ := List.mem_map.mp q
    have := hf y (.tail _ hy) x (.head _) e
    subst this
    exact h.1 hy
theorem nodup_flat {α β : Type} {f : α → List β} {l : List α} (h : l.Nodup) (hf : ∀ x ∈ l, (f x).Nodup) (hd : ∀ x ∈ l, ∀ y ∈ l, ∀ z, z ∈ f x → z ∈ f y → x = y) : (l.flatMap f).Nodup := by
  induction l with
  | nil => exact List.nodup_nil
  | cons x l ih =>
    rw [List.nodup_cons] at h
    rw [List.flatMap_cons, List.nodup_append]
    refine ⟨hf x (.head _), ih h.2 (fun a ha => hf a (.tail _ ha)) (fun a ha b hb => hd a (.tail _ ha) b (.tail _ hb)), ?_⟩
    intro a ha b hb e
    subst e
    obtain ⟨y, hy, hy'⟩ := List.mem_flatMap.mp hb
    have := hd x (.head _) y (.tail _ hy) a ha hy'
    subst this
    exact h.1 hy
theorem gconts_nodup {e : Nat} {ts : List (List Nat)} (h : Shape e ts) : e ≤ 3 → (gconts ts).Nodup := by
  induction h with
  | nil => intro _; exact List.nodup_cons.mpr ⟨List.not_mem_nil, List.nodup_nil⟩
  | @word _ o ts ho h1 h2 h3 ih =>
    intro he
    rw [gconts, gopts, if_neg (by rw [isRun_st h1 ho]; simp), word_st ho]
    simp only [List.flatMap_cons, List.flatMap_nil, List.append_nil]
    exact nodup_map' (ih he) fun x _ y _ q => List.append_cancel_left q
  | @run e n ts hn h2 h3 ih =>
    intro he
    rw [gconts, gopts, if_pos (crlfs_run hn), crlfs_half]
    show ((goods n).flatMap _).Nodup
    have hcl : ∀ r ∈ gconts ts, HN true r := fun r hr => HN.of_cls (by rw [h3.cls_cont r (gconts_sub h3 r hr)]; exact cls_of_HN h2)
    have hgo : ∀ o ∈ goods n, ∀ c ∈ o, isEnd c = true := fun o ho => (seqs_ends n o (List.mem_filter.mp ho).1).1
    refine nodup_flat (goods_facts hn (by (first | lia | omega))).1 (fun o _ => nodup_map' (ih (by (first | lia | omega))) fun x _ y _ q => List.append_cancel_left q) ?_
    intro o ho o' ho' z hz hz'
    obtain ⟨r, hr, rfl⟩ := List.mem_map.mp hz
    obtain ⟨r', hr', e'⟩ := List.mem_map.mp hz'
    exact (span_unique (hgo o ho) (hgo o' ho') (hcl r hr) (hcl r' hr') e'.symm).1
theorem count_aux {e : Nat} {ts : List (List Nat)} (h : Shape e ts) : e ≤ 3 → ∀ c : Int, ts.foldl countStep c = c * ((gconts ts).length : Int) := by
  induction h with
  | nil => intro _ c; show c = c * 1; (first | lia | omega)
  | @word _ o ts ho h1 h2 h3 ih =>
    intro he c
    have hr := isRun_st h1 ho
    rw [List.foldl_cons, ih he, countStep, if_neg (by rw [hr]; simp), gconts, gopts, if_neg (by rw [hr]; simp)]
    simp
  | @run e n ts hn h2 h3 ih =>
    intro he c
    rw [List.foldl_cons, ih (by (first | lia | omega)), countStep, if_pos (crlfs_run hn), gconts, gopts, if_pos (crlfs_run hn), crlfs_half]
    show _ = c * (((goods n).flatMap _).length : Int)
    rw [← (goods_facts hn (by (first | lia | omega))).2.1, List.length_flatMap]
    have : (List.map (fun o => (List.map (fun r => o ++ r) (gconts ts)).length) (goods n)).sum = (goods n).length * (gconts ts).length := by
      simp only [List.length_map]
      rw [List.map_const', List.sum_replicate_nat]
    rw [this, Int.natCast_mul, Int.mul_assoc]
theorem perm_flat {α β : Type} {l l' : List α} {f g : α → List β} (h : l.Perm l') (hf : ∀ x, (f x).Perm (g x)) : (l.flatMap f).Perm (l'.flatMap g) :=
  (List.Perm.flatMap_right f h).trans (by
    clear h
    induction l' with
    | nil => exact .nil
    | cons x l' ih => rw [List.flatMap_cons, List.flatMap_cons]; exact (hf x).append ih)
theorem sizes_aux {e : Nat} {ts : List (List Nat)} (h : Shape e ts) : e ≤ 3 → ∀ (sz : List Int) (xs : List (List Nat)), sz.Perm (xs.map fun x => (x.length : Int)) →
    (ts.foldl sizesStep sz).Perm ((xs.flatMap fun x => (gconts ts).map fun r => x ++ r).map fun x => (x.length : Int)) := by
  induction h with
  | nil => intro _ sz xs hp; simpa [gconts] using hp
  | @word _ o ts ho h1 h2 h3 ih =>
    intro he sz xs hp
    have hr := isRun_st h1 ho
    rw [List.foldl_cons, gconts, gopts, if_neg (by rw [hr]; simp), word_st ho]
    have hp' : (sizesStep sz (st o)).Perm ((xs.map fun x => x ++ o).map fun x => (x.length : Int)) := by
      rw [sizesStep, partsF, if_neg (by rw [hr]; simp), word_st ho]
      have : (xs.map fun x => x ++ o).map (fun x => (x.length : Int)) = (xs.map fun x => (x.length : Int)).flatMap fun s => [s + (o.length : Int)] := by
        rw [List.flatMap_map, List.map_map]
        clear hp
        induction xs with
        | nil => rfl
        | cons x xs ih => rw [List.map_cons, List.flatMap_cons, ih]; simp
      rw [this]
      exact perm_flat hp fun x => .refl _
    have := ih he _ _ hp'
    refine this.trans (.of_eq ?_)
    rw [List.flatMap_map]
    congr 1
    congr 1
    funext x
    simp [Function.comp_def]
  | @run e n ts hn h2 h3 ih =>
    intro he sz xs hp
    rw [List.foldl_cons, gconts, gopts, if_pos (crlfs_run hn), crlfs_half]
    have hp' : (sizesStep sz (crlfs n)).Perm ((xs.flatMap fun x => (goods n).map fun o => x ++ o).map fun x => (x.length : Int)) := by
      rw [sizesStep, partsF, if_pos (crlfs_run hn), crlfs_half, List.map_flatMap]
      have : (xs.flatMap fun x => ((goods n).map fun o => x ++ o).map fun x => (x.length : Int)) = (xs.map fun x => (x.length : Int)).flatMap fun s => ((goods n).map fun o => (o.length : Int)).map fun p => s + p := by
        rw [List.flatMap_map]
        congr 1
        funext x
        simp [Function.comp_def]
      rw [this]
      exact perm_flat hp fun x => (isPerm_imp (goods_facts hn (by (first | lia | omega))).2.2).map _
    have := ih (by (first | lia | omega)) _ _ hp'
    refine this.trans (.of_eq ?_)
    rw [List.flatMap_assoc]
    congr 1
    congr 1
    funext x
    show _ = List.map (fun r => x ++ r) ((goods n).flatMap _)
    rw [List.flatMap_map, List.map_flatMap]
    congr 1
    funext o
    simp [Function.comp_def]
/-- the law, all in plain lists -/
theorem plain {T : List Nat} {ts : List (List Nat)} (h : Runs (qd T) ts) (he : lfs (norm T) ≤ 3) :
    Shape (lfs (norm T)) ts ∧ (ts.map sentF).flatten = qd T ∧ T ∈ (textsF ts).filter (fun b => qd b == qd T) ∧ ((textsF ts).filter (fun b => qd b == qd T)).Nodup ∧
    ts.foldl countStep 1 = (((textsF ts).filter (fun b => qd b == qd T)).length : Int) ∧
    (ts.foldl sizesStep [0]).Perm (((textsF ts).filter (fun b => qd b == qd T)).map fun b => (b.length : Int)) := by
  obtain ⟨hS, hT⟩ := main_shape h T rfl
  have hf := h.flat
  have ht := told_good hS
  rw [hf] at ht
  rw [textsF_conts]
  refine ⟨hS, by rw [sent_join hS, hf], List.mem_filter.mpr ⟨hT, by simp⟩, ?_, ?_, ?_⟩
  · rw [ht]; exact gconts_nodup hS he
  · rw [ht, count_aux hS he]; (first | lia | omega)
  · rw [ht]
    have := sizes_aux hS he [0] [[]] (.refl _)
    simpa using this
end Mine
namespace Mine
def signF (n : Nat) : Nat := if n / 18 % 55296 = 10 ∨ n / 18 % 55296 = 13 then 32 else n / 18 % 55296
def rowF (n : Nat) : List Nat := match n / 3 % 6 with | 0 => [] | 1 => [] | 2 => [46] | 3 => [46, 46] | 4 => [signF n] | _ => [46, signF n]
def endF (n : Nat) : List Nat := match n % 3 with | 0 => [10] | 1 => [13] | _ => [13, 10]
def textF (cs : List Nat) : List Nat := (cs.flatMap fun c => rowF c ++ endF c) ++ List.replicate (cs.sum % 2) 46
theorem lfs_app (a b : List Nat) : lfs (a ++ b) = lfs a + lfs b := by unfold lfs; rw [List.count_append]
theorem lfs_skip {w : List Nat} (r : List Nat) (h : ∀ c ∈ w, isEnd c = false) : lfs (norm (w ++ r)) = lfs (norm r) := by
  rw [norm_skip w r h, lfs_app, lfs_word h, Nat.zero_add]
theorem lfs_cons2 (r : List Nat) : lfs (13 :: 10 :: r) = lfs r + 1 := by
  unfold lfs; rw [List.count_cons, List.count_cons]; simp
theorem lfs_end (n : Nat) (r : List Nat) : lfs (norm (endF n ++ r)) ≤ lfs (norm r) + 1 := by
  unfold endF
  split
  · show lfs (norm (10 :: r)) ≤ _
    rw [norm_lf, lfs_cons2]; exact Nat.le_refl _
  · show lfs (norm (13 :: r)) ≤ _
    by_cases q : r.head? = some 10
    · cases r with
      | nil => cases q
      | cons d r =>
        have : d = 10 := by simpa using q
        subst this
        rw [norm_crlf, norm_lf, lfs_cons2]; (first | lia | omega)
    · rw [norm_cr q, lfs_cons2]; exact Nat.le_refl _
  · show lfs (norm (13 :: 10 :: r)) ≤ _
    rw [norm_crlf, lfs_cons2]; exact Nat.le_refl _
theorem sign_end (n : Nat) : isEnd (signF n) = false := by
  unfold signF
  split
  · rfl
  · rename_i h
    generalize n / 18 % 55296 = k at h
    unfold isEnd
    simp only [not_or] at h
    simp [h.1, h.2]
theorem row_end (n : Nat) : ∀ c ∈ rowF n, isEnd c = false := by
  have hs := sign_end n
  unfold rowF
  intro c hc
  split at hc <;> simp at hc
  · subst hc; rfl
  · subst hc; rfl
  · subst hc; exact hs
  · rcases hc with rfl | rfl
    · rfl
    · exact hs
theorem lfs_rows (r : List Nat) : ∀ cs : List Nat, lfs (norm ((cs.flatMap fun c => rowF c ++ endF c) ++ r)) ≤ cs.length + lfs (norm r)
  | [] => by simp
  | c :: cs => by
    have ih := lfs_rows r cs
    rw [List.flatMap_cons, List.append_assoc, List.append_assoc, lfs_skip _ (row_end c)]
    have := lfs_end c ((cs.flatMap fun c => rowF c ++ endF c) ++ r)
    rw [List.length_cons]
    first | lia | omega
theorem lfs_text (cs : List Nat) : lfs (norm (textF cs)) ≤ cs.length := by
  have := lfs_rows (List.replicate (cs.sum % 2) 46) cs
  have h0 : lfs (norm (List.replicate (cs.sum % 2) 46)) = 0 := by
    have : cs.sum % 2 = 0 ∨ cs.sum % 2 = 1 := by (first | lia | omega)
    rcases this with e | e <;> rw [e] <;> decide
  rw [textF]
  first | lia | omega
theorem row_len (n : Nat) : (rowF n).length ≤ 2 := by unfold rowF; split <;> simp
theorem end_len (n : Nat) : (endF n).length ≤ 2 := by unfold endF; split <;> simp
theorem rows_len : ∀ cs : List Nat, (cs.flatMap fun c => rowF c ++ endF c).length ≤ 4 * cs.length
  | [] => by simp
  | c :: cs => by
    have := rows_len cs
    have h1 := row_len c
    have h2 := end_len c
    rw [List.flatMap_cons, List.length_append, List.length_append, List.length_cons]
    first | lia | omega
theorem text_len (cs : List Nat) : (textF cs).length ≤ 4 * cs.length + 1 := by
  have := rows_len cs
  rw [textF, List.length_append, List.length_replicate]
  first | lia | omega
theorem qd_len (T : List Nat) : (qd T).length ≤ 4 * T.length := by
  have h1 := stuff_len true (norm T)
  have h2 := norm_len T
  unfold qd
  first | lia | omega
/-- a token's ends -/
def nE (t : List Nat) : Nat := if isRun t = true then t.length / 2 else 0
def sumE (ts : List (List Nat)) : Nat := (ts.map nE).sum
theorem Shape.sumE {e : Nat} {ts : List (List Nat)} (h : Shape e ts) : sumE ts = e := by
  unfold Mine.sumE
  induction h with
  | nil => rfl
  | @word _ o ts ho h1 h2 h3 ih => rw [List.map_cons, List.sum_cons, ih, nE, if_neg (by rw [isRun_st h1 ho]; simp), Nat.zero_add]
  | @run e n ts hn h2 h3 ih => rw [List.map_cons, List.sum_cons, ih, nE, if_pos (crlfs_run hn), crlfs_half]
theorem sumE_app (a b : List (List Nat)) : sumE (a ++ b) = sumE a + sumE b := by unfold sumE; rw [List.map_append, List.sum_append_nat]
theorem mulE_len (ts : List (List Nat)) : (mulE ts).length = 3 * ts.length := by
  unfold mulE
  induction ts with
  | nil => rfl
  | cons t ts ih => rw [List.flatMap_cons, List.length_append, ih, List.length_map, List.length_cons]; show 3 + _ = _; (first | lia | omega)
theorem iterE_len : ∀ (n : Nat) (ts : List (List Nat)), (iterE n ts).length = 3 ^ n * ts.length
  | 0, ts => by simp [iterE]
  | n + 1, ts => by rw [iterE, iterE_len n, mulE_len, Nat.pow_succ, Nat.mul_assoc]
theorem iterE_succ : ∀ (n : Nat) (ts : List (List Nat)), iterE (n + 1) ts = mulE (iterE n ts)
  | 0, ts => rfl
  | n + 1, ts => by rw [iterE, iterE_succ n (mulE ts)]; rfl
theorem step_len (ts : List (List Nat)) (t : List Nat) : (textsStep ts t).length = 3 ^ nE t * ts.length := by
  unfold textsStep nE
  split
  · exact iterE_len _ _
  · simp
theorem fold_len : ∀ (toks acc : List (List Nat)), (toks.foldl textsStep acc).length = 3 ^ sumE toks * acc.length
  | [], acc => by simp [sumE]
  | t :: ts, acc => by
    rw [List.foldl_cons, fold_len ts, step_len, ← Nat.mul_assoc, ← Nat.pow_add]
    congr 2
    show _ = nE t + sumE ts
    first | lia | omega
theorem mulE_each {ts : List (List Nat)} {k : Nat} (h : ∀ t ∈ ts, t.length ≤ k) : ∀ t ∈ mulE ts, t.length ≤ k + 2 := by
  intro x hx
  obtain ⟨t, ht, hx⟩ := List.mem_flatMap.mp hx
  obtain ⟨e, he, rfl⟩ := List.mem_map.mp hx
  have := h t ht
  have he' : e = [10] ∨ e = [13] ∨ e = [13, 10] := by simpa [ends3] using he
  rw [List.length_append]
  rcases he' with rfl | rfl | rfl <;> simp <;> (first | lia | omega)
theorem iterE_each : ∀ (n : Nat) {ts : List (List Nat)} {k : Nat}, (∀ t ∈ ts, t.length ≤ k) → ∀ t ∈ iterE n ts, t.length ≤ k + 2 * n
  | 0, _, _, h => h
  | n + 1, ts, k, h => by
    intro t ht
    have := iterE_each n (mulE_each h) t ht
    first | lia | omega
theorem wordF_len (t : List Nat) : (wordF t).length ≤ t.length := by
  unfold wordF; split
  · rw [List.length_tail]; (first | lia | omega)
  · exact Nat.le_refl _
theorem step_each {ts : List (List Nat)} {t : List Nat} {k : Nat} (h : ∀ x ∈ ts, x.length ≤ k) : ∀ x ∈ textsStep ts t, x.length ≤ k + t.length := by
  intro x hx
  unfold textsStep at hx
  split at hx
  · have := iterE_each _ h x hx; (first | lia | omega)
  · obtain ⟨y, hy, rfl⟩ := List.mem_map.mp hx
    have h1 := h y hy
    have h2 := wordF_len t
    rw [List.length_append]; (first | lia | omega)
theorem fold_each : ∀ (toks acc : List (List Nat)) (k : Nat), (∀ x ∈ acc, x.length ≤ k) → ∀ x ∈ toks.foldl textsStep acc, x.length ≤ k + toks.flatten.length
  | [], acc, k, h => by simpa using h
  | t :: ts, acc, k, h => by
    intro x hx
    have := fold_each ts _ _ (step_each (t := t) h) x hx
    rw [List.flatten_cons, List.length_append]; (first | lia | omega)
end Mine
namespace Mine
theorem stuff_ne {b : Bool} {l : List Nat} (h : l ≠ []) : stuff b l ≠ [] := by
  cases l with
  | nil => exact absurd rfl h
  | cons c r => rw [stuff]; split <;> simp
theorem norm_ne {l : List Nat} (h : l ≠ []) : norm l ≠ [] := by
  cases l with
  | nil => exact absurd rfl h
  | cons c r =>
    by_cases hc : isEnd c = true
    · have : c = 10 ∨ c = 13 := by simpa [isEnd] using hc
      rcases this with rfl | rfl
      · rw [norm_lf]; simp
      · by_cases q : r.head? = some 10
        · cases r with
          | nil => cases q
          | cons d r =>
            have : d = 10 := by simpa using q
            subst this
            rw [norm_crlf]; simp
        · rw [norm_cr q]; simp
    · rw [norm_plain (by simpa using hc)]; simp
theorem qd_ne {l : List Nat} (h : l ≠ []) : qd l ≠ [] := stuff_ne (norm_ne h)
theorem endF_ne (n : Nat) : endF n ≠ [] := by unfold endF; split <;> simp
theorem textF_ne (a : Nat) (cs : List Nat) : textF (a :: cs) ≠ [] := by
  unfold textF
  rw [List.flatMap_cons, List.append_assoc, List.append_assoc]
  intro h
  have h2 := (List.append_eq_nil_iff.mp h).2
  exact endF_ne a (List.append_eq_nil_iff.mp h2).1
theorem Runs.ne {S : List Nat} {ts : List (List Nat)} (h : Runs S ts) : ∀ t ∈ ts, t ≠ [] := by
  induction h with
  | nil => intro t ht; cases ht
  | cons h1 _ _ _ ih =>
    intro t ht
    cases ht with
    | head => exact h1
    | tail _ ht => exact ih t ht
theorem len_flat : ∀ {ts : List (List Nat)}, (∀ t ∈ ts, t ≠ []) → ts.length ≤ ts.flatten.length
  | [], _ => Nat.le_refl _
  | t :: ts, h => by
    have := len_flat fun x hx => h x (.tail _ hx)
    have h1 := List.length_pos_iff.mpr (h t (.head _))
    rw [List.flatten_cons, List.length_append, List.length_cons]
    first | lia | omega
theorem Shape.each {e : Nat} {ts : List (List Nat)} (h : Shape e ts) : ∀ t ∈ ts, isRun t = true → 1 ≤ t.length / 2 ∧ t.length / 2 ≤ e := by
  induction h with
  | nil => intro t ht; cases ht
  | @word e o ts ho h1 h2 h3 ih =>
    intro t ht hr
    cases ht with
    | head => rw [isRun_st h1 ho] at hr; cases hr
    | tail _ ht => exact ih t ht hr
  | @run e n ts hn h2 h3 ih =>
    intro t ht hr
    cases ht with
    | head => rw [crlfs_half]; first | lia | omega
    | tail _ ht => have := ih t ht hr; first | lia | omega
theorem parts_len {t : List Nat} (h : isRun t = true → 1 ≤ t.length / 2 ∧ t.length / 2 ≤ 3) : (partsF t).length ≤ 3 ^ nE t := by
  unfold partsF nE
  by_cases hr : isRun t = true
  · rw [if_pos hr, if_pos hr]
    have := h hr
    have : t.length / 2 = 1 ∨ t.length / 2 = 2 ∨ t.length / 2 = 3 := by first | lia | omega
    rcases this with e | e | e <;> rw [e] <;> decide +kernel
  · rw [if_neg hr, if_neg hr]; simp
theorem sizesStep_len (sz : List Int) (t : List Nat) : (sizesStep sz t).length = sz.length * (partsF t).length := by
  unfold sizesStep
  rw [List.length_flatMap]
  simp only [List.length_map]
  rw [List.map_const', List.sum_replicate_nat]
theorem sizes_fold_len : ∀ (ts : List (List Nat)) (sz : List Int), (∀ t ∈ ts, isRun t = true → 1 ≤ t.length / 2 ∧ t.length / 2 ≤ 3) → (ts.foldl sizesStep sz).length ≤ sz.length * 3 ^ sumE ts
  | [], sz, _ => by simp [sumE]
  | t :: ts, sz, h => by
    rw [List.foldl_cons]
    refine Nat.le_trans (sizes_fold_len ts _ fun x hx => h x (.tail _ hx)) ?_
    rw [sizesStep_len]
    have h1 := parts_len (h t (.head _))
    have h2 : sumE (t :: ts) = nE t + sumE ts := by unfold sumE; rw [List.map_cons, List.sum_cons]
    rw [h2, Nat.pow_add, ← Nat.mul_assoc]
    exact Nat.mul_le_mul_right _ (Nat.mul_le_mul_left _ h1)
theorem sorted_eq {a b x y : List Int} (h : x.Perm y) (ha : a.Perm x) (hb : b.Perm y) (pa : a.Pairwise (· ≤ ·)) (pb : b.Pairwise (· ≤ ·)) : a = b :=
  List.Perm.eq_of_pairwise (fun _ _ _ _ p q => Int.le_antisymm p q) pa pb (ha.trans (h.trans hb.symm))
theorem filter_texts_len {T : List Nat} {ts : List (List Nat)} (h : sumE ts ≤ 3) : ((textsF ts).filter (fun b => qd b == qd T)).length ≤ 27 := by
  refine Nat.le_trans (List.length_filter_le _ _) ?_
  rw [textsF, fold_len]
  have : 3 ^ sumE ts ≤ 3 ^ 3 := Nat.pow_le_pow_right (by decide) h
  simp
  first | lia | omega
end Mine
namespace Mine
open PyProof.Rows.LCg
theorem compTurn_in (elt target iter : Expr) (g1 : Comprehension) (scope : Scope) (pos : Pos) (it acc : Value) (env : Env) :
    compTurn (.ListComp elt [g1, ⟨target, iter, [], 0⟩] scope pos) 1 it acc env = (standAt iter.pos >>= fun _ => pyNext it >>= fun r => match r with
      | none => pure (.done .next)
      | some v => letOwnedTupleGo target it v >>= fun _ => assign target env v >>= fun _ =>
        (eval elt env >>= fun x => call (.builtin "list.append") [acc, x] >>= fun _ => pure ()) >>= fun _ =>
          again (.compLoop (.ListComp elt [g1, ⟨target, iter, [], 0⟩] scope pos) 1 it acc env)) := by rfl
theorem compTurn_out (elt target iter target2 iter2 : Expr) (scope : Scope) (pos : Pos) (it acc : Value) (env : Env) :
    compTurn (.ListComp elt [⟨target, iter, [], 0⟩, ⟨target2, iter2, [], 0⟩] scope pos) 0 it acc env = (standAt iter.pos >>= fun _ => pyNext it >>= fun r => match r with
      | none => pure (.done .next)
      | some v => letOwnedTupleGo target it v >>= fun _ => assign target env v >>= fun _ =>
        (eval iter2 env >>= fun x => standAt iter2.pos >>= fun _ => foldedSetIterable iter2 env x >>= fun x => holding [x] (pyIter x) >>= fun it2 =>
          runOwn (.compStart (.ListComp elt [⟨target, iter, [], 0⟩, ⟨target2, iter2, [], 0⟩] scope pos) 1 it2 acc env) env >>= fun _ =>
          again (.compLoop (.ListComp elt [⟨target, iter, [], 0⟩, ⟨target2, iter2, [], 0⟩] scope pos) 0 it acc env))) := by rfl
section
variable {prog : Program} {w : World} {A : Around} {E : Value → Shared → Prop} {R : Result → Shared → Prop} {s : Shared}
theorem compLoop_in {elt target iter : Expr} {g1 : Comprehension} {scope : Scope} {pos : Pos} {it acc : Value} {env : Env} (I : Nat → Shared → Prop)
    (turn : ∀ n s, I n s → wpAny (model prog w) A (pyNext it) (fun r s₁ => match r with
      | none => R (.ok .next) s₁
      | some v => wpAny (model prog w) A (assign target env v) (fun _ s₂ => wpAny (model prog w) A (eval elt env) (fun x s₃ =>
          wpAny (model prog w) A (call (.builtin "list.append") [acc, x]) (fun _ s₄ => ∃ m, m < n ∧ I m s₄) (notedBy (model prog w) A env fun e s' => R (.error e) s') s₃)
          (notedBy (model prog w) A env fun e s' => R (.error e) s') s₂) (notedBy (model prog w) A env fun e s' => R (.error e) s') s₁) (notedBy (model prog w) A env fun e s' => R (.error e) s') s)
    (n : Nat) (h : I n s) (ht : ∀ v, letOwnedTupleGo target it v = pure () := by intro _; rfl) :
    codeAny (model prog w) A (.compLoop (.ListComp elt [g1, ⟨target, iter, [], 0⟩] scope pos) 1 it acc env) R s := by
  refine codeAny_loop rfl I (fun n s hI => ?_) n h
  show wpAny _ _ ((compTurn (.ListComp elt [g1, ⟨target, iter, [], 0⟩] scope pos) 1 it acc env).onRaise (fun x => do noteFrame x env; theTreesLotGoes x)) _ _ s
  refine wpAny_noted ?_
  rw [compTurn_in]
  refine wpAny_bind (wpAny_standAt (wpAny_bind (wpAny_mono (turn n s hI) (fun r s₁ h₁ => ?_) fun _ _ h' => h')))
  cases r with
  | none => exact wpAny_pure h₁
  | some v =>
    refine wpAny_bind (wpAny_of_eq (ht v) ?_)
    exact wpAny_bind (wpAny_mono h₁ (fun _ s₂ h₂ => wpAny_bind (wpAny_bind (wpAny_mono h₂ (fun x s₃ h₃ => wpAny_bind (wpAny_mono h₃
      (fun _ s₄ h₄ => wpAny_pure (wpAny_pure ⟨rfl, h₄⟩)) fun _ _ h' => h')) fun _ _ h' => h'))) fun _ _ h' => h')
theorem compLoop_out {elt target iter target2 iter2 : Expr} {scope : Scope} {pos : Pos} {it acc : Value} {env : Env} (I : Nat → Shared → Prop)
    (turn : ∀ n s, I n s → wpAny (model prog w) A (pyNext it) (fun r s₁ => match r with
      | none => R (.ok .next) s₁
      | some v => wpAny (model prog w) A (assign target env v) (fun _ s₂ => wpAny (model prog w) A (eval iter2 env) (fun x s₃ =>
          wpAny (model prog w) A (pyIter x) (fun it2 s₄ => codeAny (model prog w) A (.compStart (.ListComp elt [⟨target, iter, [], 0⟩, ⟨target2, iter2, [], 0⟩] scope pos) 1 it2 acc env)
            (fun r s₅ => match r with | .ok _ => ∃ m, m < n ∧ I m s₅ | .error e => cameBackBy (model prog w) A env (notedBy (model prog w) A env fun e s' => R (.error e) s') e s₅) s₄) (notedBy (model prog w) A env fun e s' => R (.error e) s') s₃)
          (notedBy (model prog w) A env fun e s' => R (.error e) s') s₂) (notedBy (model prog w) A env fun e s' => R (.error e) s') s₁) (notedBy (model prog w) A env fun e s' => R (.error e) s') s)
    (n : Nat) (h : I n s) (ht : ∀ v, letOwnedTupleGo target it v = pure () := by intro _; rfl) (hs : ∀ x, foldedSetIterable iter2 env x = pure x := by intro _; rfl) :
    codeAny (model prog w) A (.compLoop (.ListComp elt [⟨target, iter, [], 0⟩, ⟨target2, iter2, [], 0⟩] scope pos) 0 it acc env) R s := by
  refine codeAny_loop rfl I (fun n s hI => ?_) n h
  show wpAny _ _ ((compTurn (.ListComp elt [⟨target, iter, [], 0⟩, ⟨target2, iter2, [], 0⟩] scope pos) 0 it acc env).onRaise (fun x => do noteFrame x env; theTreesLotGoes x)) _ _ s
  refine wpAny_noted ?_
  rw [compTurn_out]
  refine wpAny_bind (wpAny_standAt (wpAny_bind (wpAny_mono (turn n s hI) (fun r s₁ h₁ => ?_) fun _ _ h' => h')))
  cases r with
  | none => exact wpAny_pure h₁
  | some v =>
    refine wpAny_bind (wpAny_of_eq (ht v) ?_)
    refine wpAny_bind (wpAny_mono h₁ (fun _ s₂ h₂ => ?_) fun _ _ h' => h')
    refine wpAny_bind (wpAny_mono h₂ (fun x s₃ h₃ => wpAny_bind (wpAny_standAt (wpAny_bind (wpAny_of_eq (hs x) (wpAny_bind (wpAny_holding (wpAny_mono h₃ (fun it2 s₄ h₄ => ?_) fun _ _ h' => h'))))))) fun _ _ h' => h')
    exact wpAny_bind (wpAny_runOwn (codeAny_mono h₄ fun r s₅ h₅ => by
      cases r with
      | ok f => exact wpAny_pure ⟨rfl, h₅⟩
      | error e => exact h₅))
theorem compStart_in {elt target iter} {g1 : Comprehension} {scope pos it acc env}
    (h0 : codeAny (model prog w) A (.compLoop (.ListComp elt [g1, ⟨target, iter, [], 0⟩] scope pos) 1 it acc env) R s)
    (h : wpAny (model prog w) A (pyIter it) (fun it' s' => codeAny (model prog w) A (.compLoop (.ListComp elt [g1, ⟨target, iter, [], 0⟩] scope pos) 1 it' acc env) R s')
      (notedBy (model prog w) A env fun x s' => R (.error x) s') s) :
    codeAny (model prog w) A (.compStart (.ListComp elt [g1, ⟨target, iter, [], 0⟩] scope pos) 1 it acc env) R s := by
  refine codeAny_of_tree ?_
  show wpAny _ _ ((compStart (.ListComp elt [g1, ⟨target, iter, [], 0⟩] scope pos) 1 it acc env).onRaise (fun x => do noteFrame x env; standAt theWindowsPlace)) _ _ s
  refine wpAny_notedAt ?_
  unfold compStart
  show wpAny _ _ (ask >>= _) _ _ s
  refine wpAny_bind (wpAny_askSetting (wpAny_ite ?_))
  split
  · first
      | exact wpAny_bind (wpAny_pure (wpAny_pure (And.intro rfl h0)))
      | exact wpAny_pure (And.intro rfl h0)
  · first
      | exact wpAny_bind (wpAny_rule (wpAny_bind (wpAny_standAt (wpAny_bind (wpAny_mono h (fun it' s' h' => wpAny_pure (And.intro rfl h')) fun _ _ x => x)))))
      | (refine wpAny_bind (wpAny_rule ?_); show wpAny _ _ (standAt iter.pos >>= _) _ _ s; exact wpAny_bind (wpAny_standAt (wpAny_bind (wpAny_mono h (fun it' s' h' => wpAny_pure (And.intro rfl h')) fun _ _ x => x))))
end
end Mine
namespace Mine
open PyProof.Rows.LCg
section
variable {prog : Program} {w : World} {A : Around} {E : Value → Shared → Prop} {R : Result → Shared → Prop} {s : Shared} {h₀ : Heap} {L : Addr} {m : Str → Option Value}
/-- a turn's end: the ledger stands, the frame stands -/
def Stay (h₀ : Heap) (L : Addr) (m : Str → Option Value) (s : Shared) (led : List (Addr × Obj)) (P : Value → Prop) (y : Value) (s' : Shared) : Prop :=
  ∃ h' tk', s' = { s with heap := h', toks := tk' } ∧ Fr h₀ L h' m ∧ News h₀ L h' led ∧ P y
theorem in_loop {elt iter : Expr} {g1 : Comprehension} {y : Str} {py : Pos} {scope : Scope} {pos : Pos} {I2 D : Addr} {fp2 : List Addr} {n : Nat} {P2 : Nat → Value → Prop} {St2 : Nat → Heap → Prop} {cenv : Env} {news : List (Addr × Obj)}
    (W : Walks prog w A I2 fp2 [I2] n P2 St2) (hIo : ∀ i h, St2 i h → ∃ o, h.get? I2 = some o)
    (hy : cenv.kindOf y = some .local) (hp : (cenv.scope.kind == .class || (cenv.scope.kind == .module && cenv.locals != cenv.globals)) = false)
    (J : Nat → List Value → Prop) (MM : (Str → Option Value) → Prop) (hMM : ∀ m' u, MM m' → MM (fun z => if z = y then some u else m' z))
    (hsz : ∀ j ys, J j ys → ys.length ≤ sizeLine)
    (hSt : ∀ i h h' o, St2 i h → h.get? I2 = some o → h'.get? I2 = some o → (∀ b o, h₀.get? b = some o → h'.get? b = some o) → News h₀ L h' news → St2 i h')
    (hCf : cenv.locals ∉ fp2) (hDf : D ∉ fp2) (hCL : cenv.locals ≠ L) (hDL : D ≠ L) (hC₀ : h₀.get? cenv.locals = none) (hD₀ : h₀.get? D = none) (hI₀ : h₀.get? I2 = none) (hIL : L ≠ I2) (hCD : cenv.locals ≠ D)
    (off : Off3 I2 cenv.locals D news)
    (turn : ∀ j u ys oI2 oC m' h tk (E' : Value → Shared → Prop), P2 j u → J j ys → NsObj oC m' → MM m' → m' y = some u → Fr h₀ L h m → News h₀ L h ((I2, oI2) :: (cenv.locals, oC) :: (D, lst ys) :: news) →
      wpAny (model prog w) A (eval elt cenv) (Stay h₀ L m s ((I2, oI2) :: (cenv.locals, oC) :: (D, lst ys) :: news) fun yv => J (j + 1) (ys ++ [yv])) E' { s with heap := h, toks := tk })
    {ys₀ : List Value} {m₀ : Str → Option Value} (hst : St2 0 s.heap) (F : Fr h₀ L s.heap m) (hn : s.heap.Ns cenv.locals m₀) (h0 : MM m₀) (N : News h₀ L s.heap ((D, lst ys₀) :: news)) (hJ : J 0 ys₀)
    (done : ∀ h tk ys m', J n ys → Fr h₀ L h m → h.Ns cenv.locals m' → MM m' → News h₀ L h ((D, lst ys) :: news) → R (.ok .next) { s with heap := h, toks := tk }) :
    codeAny (model prog w) A (.compLoop (.ListComp elt [g1, ⟨.Name y py, iter, [], 0⟩] scope pos) 1 (.ref I2) (.ref D) cenv) R s := by
  have hIf : I2 ∈ fp2 := W.sub I2 (List.mem_singleton.mpr rfl)
  have hCI : I2 ≠ cenv.locals := fun e => hCf (e ▸ hIf)
  have hDI : I2 ≠ D := fun e => hDf (e ▸ hIf)
  have off3 := off.mem
  refine compLoop_in
    (fun k s' => ∃ h' tk i ys m', s' = { s with heap := h', toks := tk } ∧ i ≤ n ∧ k = n + 1 - i ∧ St2 i h' ∧ Fr h₀ L h' m ∧ h'.Ns cenv.locals m' ∧ MM m' ∧ News h₀ L h' ((D, lst ys) :: news) ∧ J i ys) ?_ (n + 1)
    ⟨s.heap, s.toks, 0, ys₀, m₀, rfl, Nat.zero_le _, rfl, hst, F, hn, h0, N, hJ⟩
  rintro k s' ⟨h', tk, i, ys, m', rfl, hi, rfl, hst', F', hn', hm', N', J'⟩
  by_cases hlt : i < n
  · refine W.item i _ _ _ hlt hst' fun v h₂ tk₂ hPv hst₂ hk₂ => ?_
    refine wpAny_assign_Name (wpAny_storeName_local hy (hn'.at' fun o e => hk₂ _ o (by simpa using Ne.symm hCI) e) (fun h₃ hn₃ hs₃ => ?_) hp)
    have hst₃ : St2 (i + 1) h₃ := W.frame _ _ _ hst₂ fun b hb o e => hs₃.extBut b o (fun q => hCf (by have q' : b = cenv.locals := q; rw [← q']; exact hb)) e
    obtain ⟨oI, heI⟩ := hIo _ _ hst₃
    obtain ⟨oC, heC, hoC⟩ := ns_obj hn₃
    have F₃ : Fr h₀ L h₃ m := (fr_but F' hk₂ hIL hI₀).change hs₃ hCL hC₀
    have N₂ : News h₀ L h₂ ((D, lst ys) :: news) := news_but N' hk₂ fun p hp => by
      rcases List.mem_cons.mp hp with rfl | hp
      · exact Ne.symm hDI
      · exact (off3 p hp).1
    have N₃ : News h₀ L h₃ ((I2, oI) :: (cenv.locals, oC) :: (D, lst ys) :: news) := fun p hp => by
      rcases List.mem_cons.mp hp with rfl | hp
      · exact ⟨heI, Ne.symm hIL, hI₀⟩
      · rcases List.mem_cons.mp hp with rfl | hp
        · exact ⟨heC, hCL, hC₀⟩
        · have z := N₂ p hp
          refine ⟨hs₃.extBut _ _ ?_ z.1, z.2⟩
          rcases List.mem_cons.mp hp with rfl | hp
          · exact Ne.symm hCD
          · exact (off3 p hp).2.1
    refine wpAny_mono (turn i v ys oI oC _ h₃ _ _ hPv J' hoC (hMM _ _ hm') (by simp) F₃ N₃) (fun yv s₄ h₄ => ?_) fun _ _ e => e
    obtain ⟨h₄, tk₄, rfl, F₄, N₄, J₄⟩ := h₄
    have zI := (N₄ (I2, oI) List.mem_cons_self).1
    have zC := (N₄ (cenv.locals, oC) (List.mem_cons_of_mem _ List.mem_cons_self)).1
    have zD := (N₄ (D, lst ys) (List.mem_cons_of_mem _ (List.mem_cons_of_mem _ List.mem_cons_self))).1
    have N₄' : News h₀ L h₄ news := fun p hp => N₄ p (List.mem_cons_of_mem _ (List.mem_cons_of_mem _ (List.mem_cons_of_mem _ hp)))
    have hst₄ : St2 (i + 1) h₄ := hSt _ _ _ _ hst₃ heI zI F₄.keep N₄'
    refine append_at (hsz := by show ys.toArray.size ≤ sizeLine; rw [List.size_toArray]; exact hsz _ _ J') zD fun h₅ hs₅ hD₅ => ?_
    refine ⟨n + 1 - (i + 1), by omega, h₅, tk₄, i + 1, ys ++ [yv], _, rfl, hlt, rfl, W.frame _ _ _ hst₄ fun b hb o e => hs₅.extBut b o (fun q => hDf (q ▸ hb)) e, F₄.change hs₅ hDL hD₀,
      (hoC.ns zC).sameBut hs₅ hCD, hMM _ _ hm', fun p hp => ?_, J₄⟩
    rcases List.mem_cons.mp hp with rfl | hp
    · exact ⟨hD₅.trans (congrArg some (lst_snoc ys yv)), hDL, hD₀⟩
    · exact ⟨hs₅.extBut _ _ (off3 p hp).2.2 (N₄' p hp).1, (N₄' p hp).2⟩
  · obtain rfl : i = n := Nat.le_antisymm hi (Nat.not_lt.mp hlt)
    refine W.done _ _ _ hst' fun h₂ tk₂ hk₂ => ?_
    exact done h₂ tk₂ ys m' J' (fr_but F' hk₂ hIL hI₀) (hn'.at' fun o e => hk₂ _ o (by simpa using Ne.symm hCI) e) hm' (news_but N' hk₂ fun p hp => by
      rcases List.mem_cons.mp hp with rfl | hp
      · exact Ne.symm hDI
      · exact (off3 p hp).1)
/-- a list or a tuple of the ledger's -/
def Src2 (h₀ : Heap) (ax : Addr) (its : Array Value) (news : List (Addr × Obj)) : Prop := SrcAt h₀ ax its news ∨ ∃ o, (ax, o) ∈ news ∧ o.cls = .type "tuple" ∧ ∃ n, o.data = .seq its n
/-- what the second clause's iterable gives -/
def NestSrc (prog : Program) (w : World) (A : Around) (h₀ : Heap) (L : Addr) (m : Str → Option Value) (cenv : Env) (C : Addr) (s : Shared) (elt : Expr) (x y : Str) (v : Value) (I : Addr) (oI : Obj) (oC : Obj) (D : Addr) (ys : List Value) (news : List (Addr × Obj)) (Jn : List Value → Prop) (xv : Value) (s' : Shared) : Prop :=
  ∃ ax2 its2 extra h' tk', xv = .ref ax2 ∧ s' = { s with heap := h', toks := tk' } ∧ Fr h₀ L h' m ∧ News h₀ L h' ((I, oI) :: (C, oC) :: (D, lst ys) :: (extra ++ news)) ∧ Off3 I C D extra ∧ Src2 h₀ ax2 its2 (extra ++ news) ∧
    ∃ J2 : Nat → List Value → Prop, J2 0 ys ∧ (∀ ys', J2 its2.size ys' → Jn ys') ∧ (∀ j ys', J2 j ys' → ys'.length ≤ sizeLine) ∧
      ∀ j u ys' I2 oI2 oC' m' h tk (E' : Value → Shared → Prop), its2[j]? = some u → J2 j ys' → NsObj oC' m' → m' x = some v → m' y = some u → Fr h₀ L h m → News h₀ L h ((I2, oI2) :: (C, oC') :: (D, lst ys') :: (I, oI) :: (extra ++ news)) →
        wpAny (model prog w) A (eval elt cenv) (Stay h₀ L m s ((I2, oI2) :: (C, oC') :: (D, lst ys') :: (I, oI) :: (extra ++ news)) fun yv => J2 (j + 1) (ys' ++ [yv])) E' { s with heap := h, toks := tk }
theorem off3_app {I C D : Addr} {a b : List (Addr × Obj)} (ha : Off3 I C D a) (hb : Off3 I C D b) : Off3 I C D (a ++ b) := Off3.of fun p hp => by
  rcases List.mem_append.mp hp with h | h
  · exact ha.mem p h
  · exact hb.mem p h
theorem fresh_of {h : Heap} {a : Addr} (ha : h.objs.size ≤ a) : h.get? a = none := by
  cases e : h.get? a with
  | none => rfl
  | some o' => exact absurd (Heap.lt_size e) (Nat.not_lt.mpr ha)
variable {env : Env}
/-- the inner loop, from what the second clause's iterable gives -/
theorem nest_in {elt iter : Expr} {g1 : Comprehension} {x y : Str} {py : Pos} {scope : Scope} {cl : List (Str × Addr)} {pos : Pos} {C D I : Addr} {oI oC : Obj} {v xv : Value} {ys : List Value} {news : List (Addr × Obj)} {Jn : List Value → Prop} {s₀ s₁ : Shared} {m₂ : Str → Option Value}
    (hh : A.handled = none) (hkind : scope.kind = .function) (hy : scope.names.lookup y = some .local) (hxy : x ≠ y)
    (hoC : NsObj oC m₂) (hm₂ : m₂ x = some v)
    (hIL : L ≠ I) (hCL : C ≠ L) (hDL : D ≠ L) (hC₀ : h₀.get? C = none) (hD₀ : h₀.get? D = none) (hI₀ : h₀.get? I = none) (hCD : C ≠ D) (hCI : I ≠ C) (hDI : I ≠ D) (off : Off3 I C D news)
    (h : NestSrc prog w A h₀ L m (compEnvC scope cl C env) C s₀ elt x y v I oI oC D ys news Jn xv s₁)
    (done : ∀ h tk ys' m' extra, Jn ys' → ys'.length ≤ sizeLine → Fr h₀ L h m → h.Ns C m' → News h₀ L h ((D, lst ys') :: (I, oI) :: (extra ++ news)) → R (.ok .next) { s₀ with heap := h, toks := tk }) :
    wpAny (model prog w) A (pyIter xv) (fun it2 s₂ => codeAny (model prog w) A (.compStart (.ListComp elt [g1, ⟨.Name y py, iter, [], 0⟩] scope pos) 1 it2 (.ref D) (compEnvC scope cl C env)) R s₂) E s₁ := by
  obtain ⟨ax2, its2, extra, h', tk', rfl, rfl, F, N, offE, hsrc, J2, hJ0, hJn, hJs, turn⟩ := h
  have offA : Off3 I C D (extra ++ news) := off3_app offE off
  have up : ∀ (o : Obj) b o', h'.get? b = some o' → (h'.push o).get? b = some o' := fun o b o' e => Heap.get?_push_of_some _ e
  have zC := (N (C, oC) (List.mem_cons_of_mem _ List.mem_cons_self)).1
  have zD := (N (D, lst ys) (List.mem_cons_of_mem _ (List.mem_cons_of_mem _ List.mem_cons_self))).1
  have zI := (N (I, oI) List.mem_cons_self).1
  have hI2L : L ≠ h'.objs.size := Nat.ne_of_lt F.ns.lt
  have hI2₀ : h₀.get? h'.objs.size = none := next_is_new F
  have hCn : C ≠ h'.objs.size := Nat.ne_of_lt (Heap.lt_size zC)
  have hDn : D ≠ h'.objs.size := Nat.ne_of_lt (Heap.lt_size zD)
  have hIn : I ≠ h'.objs.size := Nat.ne_of_lt (Heap.lt_size zI)
  have off2 : Off3 h'.objs.size C D ((I, oI) :: (extra ++ news)) := Off3.of fun p hp => by
    rcases List.mem_cons.mp hp with rfl | hp'
    · exact ⟨hIn, hCI, hDI⟩
    · have z := offA.mem p hp'
      exact ⟨Nat.ne_of_lt (Heap.lt_size (N p (List.mem_cons_of_mem _ (List.mem_cons_of_mem _ (List.mem_cons_of_mem _ hp')))).1), z.2.1, z.2.2⟩
  have N0 : ∀ o : Obj, News h₀ L (h'.push o) ((D, lst ys) :: (I, oI) :: (extra ++ news)) := fun o p hp => by
    have hp' : p ∈ (I, oI) :: (C, oC) :: (D, lst ys) :: (extra ++ news) := by
      rcases List.mem_cons.mp hp with rfl | hp
      · exact List.mem_cons_of_mem _ (List.mem_cons_of_mem _ List.mem_cons_self)
      · rcases List.mem_cons.mp hp with rfl | hp
        · exact List.mem_cons_self
        · exact List.mem_cons_of_mem _ (List.mem_cons_of_mem _ (List.mem_cons_of_mem _ hp))
    exact ⟨up o _ _ (N p hp').1, (N p hp').2⟩
  rcases hsrc with S | S
  · have hl : h'.IsList ax2 its2 := S.list F.keep (fun p hp => N p (List.mem_cons_of_mem _ (List.mem_cons_of_mem _ (List.mem_cons_of_mem _ hp))))
    have hax : ax2 < h'.objs.size := by obtain ⟨_, e, _⟩ := hl; exact Heap.lt_size e
    have hsv : SrcAt h₀ ax2 its2 (extra ++ news) := S
    refine wpAny_pyIter_list (s := { s₀ with heap := h', toks := tk' }) hl ?_
    have hCa : C ≠ ax2 := by
      rintro rfl
      obtain ⟨o, e, hc, n, hd⟩ := hl
      rw [zC] at e
      cases e
      obtain ⟨es, ep, hd', _⟩ := hoC
      rw [hd'] at hd; cases hd
    have hDa : D ≠ ax2 := by
      rintro rfl
      rcases S with ⟨o, e, _⟩ | ⟨o, hm, _⟩
      · rw [hD₀] at e; cases e
      · exact (offA.mem _ hm).2.2 rfl
    have W := Walks.list (prog := prog) (w := w) hh h'.objs.size ax2 (Nat.ne_of_lt hax) its2
    have st0 : (h'.push { cls := .type "list_iterator", data := .fields #[.ref ax2, .int 0 0] }).IsListIter h'.objs.size ax2 0 ∧ (h'.push { cls := .type "list_iterator", data := .fields #[.ref ax2, .int 0 0] }).IsList ax2 its2 := ⟨⟨_, Heap.get?_push_size _ rfl, rfl, rfl⟩, hl.push _⟩
    have loop := in_loop (R := R) (s := { s₀ with heap := h'.push { cls := .type "list_iterator", data := .fields #[.ref ax2, .int 0 0] }, toks := tk' }) (elt := elt) (iter := iter) (g1 := g1) (y := y) (py := py) (scope := scope) (pos := pos) (D := D) (cenv := compEnvC scope cl C env) (news := (I, oI) :: (extra ++ news)) (m := m) (L := L) (h₀ := h₀) W (fun i h st => by obtain ⟨o, e, _⟩ := st.1; exact ⟨o, e⟩) (lookup_relabel_local hy) (by simp [compEnvC, relabel, hkind]) J2 (fun m' => m' x = some v)
      (fun m' u q => by show (if x = y then _ else _) = _; rw [if_neg hxy]; exact q) hJs (fun i h h'' o st e e' k N' => ⟨by obtain ⟨o', q, r⟩ := st.1; rw [e] at q; cases q; exact ⟨o, e', r⟩, hsv.list k (fun p hp => N' p (List.mem_cons_of_mem _ hp))⟩)
      (by intro q; rcases List.mem_cons.mp q with q | q; exact hCn q; exact hCa (List.mem_singleton.mp q)) (by intro q; rcases List.mem_cons.mp q with q | q; exact hDn q; exact hDa (List.mem_singleton.mp q)) hCL hDL hC₀ hD₀ hI2₀ hI2L hCD off2
      (fun j u ys' oI2 oC' m' h tk E' hp hj hc hm hu F' N' => turn j u ys' _ oI2 oC' m' h tk E' hp hj hc hm hu F' N') st0 (F.keeps (up _)) (hoC.ns (up _ _ _ zC)) hm₂ (N0 _) hJ0
      (fun h tk ys' m' hj F' hn hm N' => done h tk ys' m' extra (hJn _ hj) (hJs _ _ hj) F' hn N')
    exact compStart_in loop (W.self 0 _ _ _ st0 loop)
  · obtain ⟨o, hm, hc, n, hd⟩ := S
    have hmem : (ax2, o) ∈ (I, oI) :: (C, oC) :: (D, lst ys) :: (extra ++ news) := List.mem_cons_of_mem _ (List.mem_cons_of_mem _ (List.mem_cons_of_mem _ hm))
    have hl : h'.IsTuple ax2 its2 := ⟨o, (N _ hmem).1, hc, n, hd⟩
    have hax : ax2 < h'.objs.size := by obtain ⟨_, e, _⟩ := hl; exact Heap.lt_size e
    refine wpAny_pyIter_tuple (s := { s₀ with heap := h', toks := tk' }) hl ?_
    have hCa : C ≠ ax2 := fun e => (offA.mem _ hm).2.1 e.symm
    have hDa : D ≠ ax2 := fun e => (offA.mem _ hm).2.2 e.symm
    have W := Walks.tuple (prog := prog) (w := w) hh h'.objs.size ax2 (Nat.ne_of_lt hax) its2
    have st0 : (h'.push { cls := .type "tuple_iterator", data := .fields #[.ref ax2, .int 0 0] }).IsTupleIter h'.objs.size ax2 0 ∧ (h'.push { cls := .type "tuple_iterator", data := .fields #[.ref ax2, .int 0 0] }).IsTuple ax2 its2 := ⟨⟨_, Heap.get?_push_size _ rfl, rfl, rfl⟩, hl.push _⟩
    have loop := in_loop (R := R) (s := { s₀ with heap := h'.push { cls := .type "tuple_iterator", data := .fields #[.ref ax2, .int 0 0] }, toks := tk' }) (elt := elt) (iter := iter) (g1 := g1) (y := y) (py := py) (scope := scope) (pos := pos) (D := D) (cenv := compEnvC scope cl C env) (news := (I, oI) :: (extra ++ news)) (m := m) (L := L) (h₀ := h₀) W (fun i h st => by obtain ⟨o, e, _⟩ := st.1; exact ⟨o, e⟩) (lookup_relabel_local hy) (by simp [compEnvC, relabel, hkind]) J2 (fun m' => m' x = some v)
      (fun m' u q => by show (if x = y then _ else _) = _; rw [if_neg hxy]; exact q) hJs (fun i h h'' o' st e e' k N' => ⟨by obtain ⟨o', q, r⟩ := st.1; rw [e] at q; cases q; exact ⟨_, e', r⟩, ⟨o, (N' _ (List.mem_cons_of_mem _ hm)).1, hc, n, hd⟩⟩)
      (by intro q; rcases List.mem_cons.mp q with q | q; exact hCn q; exact hCa (List.mem_singleton.mp q)) (by intro q; rcases List.mem_cons.mp q with q | q; exact hDn q; exact hDa (List.mem_singleton.mp q)) hCL hDL hC₀ hD₀ hI2₀ hI2L hCD off2
      (fun j u ys' oI2 oC' m' h tk E' hp hj hc hm hu F' N' => turn j u ys' _ oI2 oC' m' h tk E' hp hj hc hm hu F' N') st0 (F.keeps (up _)) (hoC.ns (up _ _ _ zC)) hm₂ (N0 _) hJ0
      (fun h tk ys' m' hj F' hn hm N' => done h tk ys' m' extra (hJn _ hj) (hJs _ _ hj) F' hn N')
    exact compStart_in loop (W.self 0 _ _ _ st0 loop)
end
end Mine
namespace Mine
open PyProof.Rows.LCg
section
variable {prog : Program} {w : World} {A : Around} {E : Value → Shared → Prop} {s : Shared} {h₀ : Heap} {L : Addr} {m : Str → Option Value} {env : Env}
/-- what is asked of an outer turn -/
abbrev NestTurn (prog : Program) (w : World) (A : Around) (h₀ : Heap) (L : Addr) (m : Str → Option Value) (env : Env) (scope : Scope) (cl : List (Str × Addr)) (elt iter2 : Expr) (x y : Str) (its : Array Value) (news : List (Addr × Obj)) (J : Nat → List Value → Prop) (s : Shared) : Prop :=
  ∀ i v ys I oI C oC D m₂ h tk (E' : Value → Shared → Prop), its[i]? = some v → J i ys → NsObj oC m₂ → m₂ x = some v → Fr h₀ L h m → News h₀ L h ((I, oI) :: (C, oC) :: (D, lst ys) :: news) → Off3 I C D news → ((@Ne Nat I C) ∧ (@Ne Nat I D) ∧ (@Ne Nat C D)) →
    wpAny (model prog w) A (eval iter2 (compEnvC scope cl C env)) (NestSrc prog w A h₀ L m (compEnvC scope cl C env) C s elt x y v I oI oC D ys news (J (i + 1))) E' { s with heap := h, toks := tk }
theorem nest_block {elt iter iter2 : Expr} {x y : Str} {px py : Pos} {scope : Scope} {cl : List (Str × Addr)} {pos : Pos} {s₂ : Shared} {I ax : Addr} {its : Array Value} {news : List (Addr × Obj)} {J : Nat → List Value → Prop} {RR : Value → Addr → Result → Shared → Prop}
    (hh : A.handled = none) (hne : ax ≠ I) (S : SrcAt h₀ ax its news)
    (hcell : ∀ z ∈ scope.names, z.2 ≠ .cell) (hkind : scope.kind = .function) (hx : scope.names.lookup x = some .local) (hy : scope.names.lookup y = some .local) (hxy : x ≠ y) (hst : s₂.heap.IsListIter I ax 0 ∧ s₂.heap.IsList ax its)
    (F : Fr h₀ L s₂.heap m) (N : News h₀ L s₂.heap news) (hIL : L ≠ I) (hI₀ : h₀.get? I = none) (off : ∀ p ∈ news, p.1 ≠ I) (hJ0 : J 0 [])
    (turn : NestTurn prog w A h₀ L m env scope cl elt iter2 x y its news J s₂)
    (hRR : ∀ D C h tk m' ys, J its.size ys → Fr h₀ L h m → News h₀ L h ((D, lst ys) :: news) → Off1 D news → h.Ns C m' → h₀.get? C = none → h₀.get? D = none → C ≠ L → D ≠ L → C ≠ D → (∀ p ∈ news, p.1 ≠ C) → RR (.ref D) C (.ok .next) { s₂ with heap := h, toks := tk })
    (hs : ∀ c x, foldedSetIterable iter2 (compEnvC scope cl c env) x = pure x) :
    wpAny (model prog w) A (newList []) (fun acc s₃ => wpAny (model prog w) A (newFunctionEnv scope env.globals cl [] env.qual none .none (some env)) (fun cenv s₄ =>
      codeAny (model prog w) A (.compStart (.ListComp elt [⟨.Name x px, iter, [], 0⟩, ⟨.Name y py, iter2, [], 0⟩] scope pos) 0 (.ref I) acc { cenv with scope := relabel scope env }) (RR acc cenv.locals) s₄) E s₃) E s₂ := by
  have W := Walks.list (prog := prog) (w := w) hh I ax hne its
  refine wpAny_newObj_type (wpAny_newFunctionEnv hcell (by intro y hy; simp at hy) (fun h₁ hns₁ hsb₁ => ?_) hkind)
  dsimp only at hns₁ hsb₁ ⊢
  generalize hH2 : s₂.heap.push { cls := .type "list", dict := none, data := .seq ([] : List Value).toArray } = H2 at hns₁ hsb₁ ⊢
  have hC : H2.objs.size = s₂.heap.objs.size + 1 := by rw [← hH2, Heap.size_push]
  have hDC : s₂.heap.objs.size ≠ H2.objs.size := by rw [hC]; exact Nat.ne_of_lt (Nat.lt_succ_self _)
  have below : ∀ b, b < s₂.heap.objs.size → b ≠ H2.objs.size ∧ b ≠ s₂.heap.objs.size := fun b hb => ⟨by rw [hC]; exact Nat.ne_of_lt (Nat.lt_succ_of_lt hb), Nat.ne_of_lt hb⟩
  have hIlt : I < s₂.heap.objs.size := by obtain ⟨_, e, _⟩ := hst.1; exact Heap.lt_size e
  have halt : ax < s₂.heap.objs.size := by obtain ⟨_, e, _⟩ := hst.2; exact Heap.lt_size e
  have hDf : s₂.heap.objs.size ∉ [I, ax] := by
    intro hm
    rcases List.mem_cons.mp hm with e | hm
    · exact (below I hIlt).2 e.symm
    · exact (below ax halt).2 (List.mem_singleton.mp hm).symm
  have hCf : H2.objs.size ∉ [I, ax] := by
    intro hm
    rcases List.mem_cons.mp hm with e | hm
    · exact (below I hIlt).1 e.symm
    · exact (below ax halt).1 (List.mem_singleton.mp hm).symm
  have old : ∀ b o, s₂.heap.get? b = some o → h₁.get? b = some o := fun b o e => hsb₁.extBut b o (below b (Heap.lt_size e)).1 (Heap.get?_push_of_some _ (hH2 ▸ Heap.get?_push_of_some _ e))
  have hacc : h₁.get? s₂.heap.objs.size = some (lst []) := hsb₁.extBut _ _ hDC (Heap.get?_push_of_some _ (hH2 ▸ Heap.get?_push_size _ rfl))
  have hst₁ : h₁.IsListIter I ax 0 ∧ h₁.IsList ax its := W.frame _ _ _ hst fun b _ o e => old b o e
  have fresh₀ : ∀ a, s₂.heap.objs.size ≤ a → h₀.get? a = none := fun a ha => by
    cases e : h₀.get? a with
    | none => rfl
    | some o' => have := F.keep a o' e; rw [fresh_of ha] at this; cases this
  have hD₀ : h₀.get? s₂.heap.objs.size = none := fresh₀ _ (Nat.le_refl _)
  have hC₀ : h₀.get? H2.objs.size = none := fresh₀ _ (by rw [hC]; exact Nat.le_succ _)
  have hLlt : L < s₂.heap.objs.size := F.ns.lt
  have hDL : s₂.heap.objs.size ≠ L := Ne.symm (below L hLlt).2
  have hCL : H2.objs.size ≠ L := Ne.symm (below L hLlt).1
  have hCI : I ≠ H2.objs.size := (below I hIlt).1
  have hDI : I ≠ s₂.heap.objs.size := (below I hIlt).2
  have off₀ : Off3 I H2.objs.size s₂.heap.objs.size news := Off3.of fun p hp => ⟨off p hp, (below _ (Heap.lt_size (N p hp).1)).1, (below _ (Heap.lt_size (N p hp).1)).2⟩
  have off3 := off₀.mem
  have loop : ∀ s₃ : Shared, s₃ = { s₂ with heap := h₁, toks := s₂.toks + ([] : List (Str × Value)).length } →
      codeAny (model prog w) A (.compLoop (.ListComp elt [⟨.Name x px, iter, [], 0⟩, ⟨.Name y py, iter2, [], 0⟩] scope pos) 0 (.ref I) (.ref s₂.heap.objs.size) (compEnvC scope cl H2.objs.size env))
        (RR (.ref s₂.heap.objs.size) H2.objs.size) s₃ := by
    rintro s₃ rfl
    refine compLoop_out (hs := hs _)
      (fun k s' => ∃ h' tk i ys m', s' = { s₂ with heap := h', toks := tk } ∧ i ≤ its.size ∧ k = its.size + 1 - i ∧ (h'.IsListIter I ax i ∧ h'.IsList ax its) ∧ Fr h₀ L h' m ∧ h'.Ns H2.objs.size m' ∧ News h₀ L h' ((s₂.heap.objs.size, lst ys) :: news) ∧ J i ys) ?_ (its.size + 1)
      ⟨h₁, _, 0, [], _, rfl, Nat.zero_le _, rfl, hst₁, F.keeps old, hns₁, fun p hp => ?_, hJ0⟩
    · rintro k s' ⟨h', tk, i, ys, m', rfl, hi, rfl, hst', F', hn', N', J'⟩
      by_cases hlt : i < its.size
      · refine W.item i _ _ _ hlt hst' fun v h₂ tk₂ hPv hst₂ hk₂ => ?_
        refine wpAny_assign_Name (wpAny_storeName_local (lookup_relabel_local hx) (hn'.at' fun o e => hk₂ _ o (by simpa using Ne.symm hCI) e) (fun h₃ hn₃ hs₃ => ?_) (by simp [compEnvC, relabel, hkind]))
        have hst₃ : h₃.IsListIter I ax (i + 1) ∧ h₃.IsList ax its := W.frame _ _ _ hst₂ fun b hb o e => hs₃.extBut b o (fun q => hCf (by have q' : b = H2.objs.size := q; rw [← q']; exact hb)) e
        obtain ⟨oI, heI, hoI⟩ := id hst₃.1
        obtain ⟨oC, heC, hoC⟩ := ns_obj hn₃
        have F₃ : Fr h₀ L h₃ m := (fr_but F' hk₂ hIL hI₀).change hs₃ hCL hC₀
        have N₂ : News h₀ L h₂ ((s₂.heap.objs.size, lst ys) :: news) := news_but N' hk₂ fun p hp => by
          rcases List.mem_cons.mp hp with rfl | hp
          · exact Ne.symm hDI
          · exact (off3 p hp).1
        have N₃ : News h₀ L h₃ ((I, oI) :: (H2.objs.size, oC) :: (s₂.heap.objs.size, lst ys) :: news) := fun p hp => by
          rcases List.mem_cons.mp hp with rfl | hp
          · exact ⟨heI, Ne.symm hIL, hI₀⟩
          · rcases List.mem_cons.mp hp with rfl | hp
            · exact ⟨heC, hCL, hC₀⟩
            · have z := N₂ p hp
              refine ⟨hs₃.extBut _ _ ?_ z.1, z.2⟩
              rcases List.mem_cons.mp hp with rfl | hp
              · exact hDC
              · exact (off3 p hp).2.1
        refine wpAny_mono (turn i v ys I oI H2.objs.size oC s₂.heap.objs.size _ h₃ _ _ hPv J' hoC (by simp) F₃ N₃ off₀ ⟨hCI, hDI, Ne.symm hDC⟩) (fun xv s₄ h₄ => ?_) fun _ _ e => e
        refine nest_in hh hkind hy hxy hoC (by simp) hIL hCL hDL hC₀ hD₀ hI₀ (Ne.symm hDC) hCI hDI off₀ h₄ ?_
        intro h₅ tk₅ ys' m₅ extra hj hys F₅ hn₅ N₅
        have zI := (N₅ (I, oI) (List.mem_cons_of_mem _ List.mem_cons_self)).1
        have N₅' : News h₀ L h₅ ((s₂.heap.objs.size, lst ys') :: news) := fun p hp => N₅ p (by
          rcases List.mem_cons.mp hp with rfl | hp
          · exact List.mem_cons_self
          · exact List.mem_cons_of_mem _ (List.mem_cons_of_mem _ (List.mem_append_right _ hp)))
        exact ⟨its.size + 1 - (i + 1), by omega, h₅, tk₅, i + 1, ys', m₅, rfl, hlt, rfl, ⟨⟨oI, zI, hoI⟩, S.list F₅.keep (fun p hp => N₅' p (List.mem_cons_of_mem _ hp))⟩, F₅, hn₅, N₅', hj⟩
      · obtain rfl : i = its.size := Nat.le_antisymm hi (Nat.not_lt.mp hlt)
        refine W.done _ _ _ hst' fun h₂ tk₂ hk₂ => ?_
        exact hRR _ _ h₂ tk₂ _ ys J' (fr_but F' hk₂ hIL hI₀) (news_but N' hk₂ fun p hp => by
          rcases List.mem_cons.mp hp with rfl | hp
          · exact Ne.symm hDI
          · exact (off3 p hp).1) off₀.one (hn'.at' fun o e => hk₂ _ o (by simpa using Ne.symm hCI) e) hC₀ hD₀ hCL hDL (Ne.symm hDC) (fun p hp => (off3 p hp).2.1)
    · rcases List.mem_cons.mp hp with rfl | hp
      · exact ⟨hacc, hDL, hD₀⟩
      · exact ⟨old _ _ (N p hp).1, (N p hp).2⟩
  exact codeAny_compStart_list (loop _ rfl) (W.self 0 _ _ _ hst₁ (loop _ rfl))
/-- where the first clause's iterable stands -/
def NestFrom (prog : Program) (w : World) (A : Around) (h₀ : Heap) (L : Addr) (m : Str → Option Value) (env : Env) (scope : Scope) (cl : List (Str × Addr)) (elt iter2 : Expr) (x y z : Str) (Q : Flow → Shared → Prop) (xv : Value) (s₁ : Shared) : Prop :=
  ∃ ax its news J, xv = .ref ax ∧ A.handled = none ∧ Fr h₀ L s₁.heap m ∧ News h₀ L s₁.heap news ∧ SrcAt h₀ ax its news ∧ J 0 [] ∧ (∀ g, NestTurn prog w A h₀ L m env scope cl elt iter2 x y its news J { s₁ with heap := g }) ∧
    ∀ g, ∀ ys, J its.size ys → FinA h₀ L m { s₁ with heap := g } z Q ys news
theorem Assign_nest {elt iter iter2 : Expr} {x y z : Str} {px py pz : Pos} {scope : Scope} {cl : List (Str × Addr)} {pos spos : Pos} {Q : Flow → Shared → Prop} (F₀ : Fr h₀ L s.heap m) (hLe : env.locals = L)
    (hsw : swapsWith (.ListComp elt [⟨.Name x px, iter, [], 0⟩, ⟨.Name y py, iter2, [], 0⟩] scope pos) (some (.Name z pz)) spos.line env = pure true)
    (hclos : closureFor scope env = pure cl) (hcell : ∀ z ∈ scope.names, z.2 ≠ .cell) (hkind : scope.kind = .function)
    (hnames : ∀ z ∈ scope.names, z.2 = .local → scope.names.lookup z.1 = some .local) (hx : scope.names.lookup x = some .local) (hy : scope.names.lookup y = some .local) (hxy : x ≠ y)
    (hz : env.kindOf z = some .local) (hp : (env.scope.kind == .class || (env.scope.kind == .module && env.locals != env.globals)) = false)
    (h : wpAny (model prog w) A (eval iter env) (NestFrom prog w A h₀ L m env scope cl elt iter2 x y z Q) E s)
    (hs : ∀ x, foldedSetIterable iter env x = pure x := by intro _; rfl) (hs2 : ∀ c x, foldedSetIterable iter2 (compEnvC scope cl c env) x = pure x := by intro _ _; rfl) :
    wpAny (model prog w) A (exec (.Assign [.Name z pz] (.ListComp elt [⟨.Name x px, iter, [], 0⟩, ⟨.Name y py, iter2, [], 0⟩] scope pos) spos) env) Q E s := by
  subst hLe
  rw [exec_Assign_Name_used _ _ _ _ hsw]
  refine wpAny_bind (wpAny_standAt (wpAny_bind ?_))
  show wpAny _ A (do let _ ← comprehension (.ListComp elt [⟨.Name x px, iter, [], 0⟩, ⟨.Name y py, iter2, [], 0⟩] scope pos) scope env _ (newList []) false (eval iter env) (some (assign (.Name z pz) env))) _ _ s
  refine wpAny_bind (wpAny_mono (wpAny_comprehension_free (use := some (assign (.Name z pz) env)) (Q := fun _ s' => Q .next s') rfl hs hclos hkind hnames
    (wpAny_mono h (fun xv s₁ h₁ => ?_) fun _ _ e => e)) (fun _ s' hq => wpAny_pure (wpAny_pure hq)) fun _ _ e => e)
  obtain ⟨ax, its, news, J, rfl, hh, F, N, S, hJ0, turn, fin⟩ := h₁
  have hl := S.list F.keep N
  have hlt : ax < s₁.heap.objs.size := by obtain ⟨_, e, _⟩ := hl; exact Heap.lt_size e
  refine wpAny_pyIter_list hl ?_
  have up : ∀ b o, s₁.heap.get? b = some o → (s₁.heap.push { cls := .type "list_iterator", data := .fields #[.ref ax, .int 0 0] }).get? b = some o := fun b o e => Heap.get?_push_of_some _ e
  refine nest_block hh (Nat.ne_of_lt hlt) S hcell hkind hx hy hxy ⟨⟨_, Heap.get?_push_size _ rfl, rfl, rfl⟩, hl.push _⟩ (F.keeps up) (N.grown up) (Nat.ne_of_lt F.ns.lt) (next_is_new F) (fun p hp => Nat.ne_of_lt (Heap.lt_size (N p hp).1)) hJ0 (turn _) ?_ hs2
  intro D C h' tk m' ys hJ F' N' o1 hn hC₀ hD₀ hCL hDL hCD offC
  show wpAny _ A (assign (.Name z pz) env (.ref D)) _ _ _
  refine wpAny_assign_Name (wpAny_storeName_local hz F'.ns (fun h₂ hn₂ hs₂ => ?_) hp)
  have hL₀ : h₀.get? env.locals = none := Heap.get?_none_of_le F'.above
  have F₂ : Fr h₀ env.locals h₂ (fun q => if q = z then some (.ref D) else m q) := ⟨hn₂, fun b o e => hs₂.extBut b o (fun q => by rw [q, hL₀] at e; cases e) (F'.keep b o e), F'.above⟩
  refine ⟨m', hn.sameBut hs₂ hCL, fun h'' hs'' => fin s₁.heap ys hJ D h'' _ (F₂.change hs'' hCL hC₀) (fun p hp => ?_) o1⟩
  have zz : h₂.get? p.1 = some p.2 := hs₂.extBut _ _ (N' p hp).2.1 (N' p hp).1
  refine ⟨hs''.extBut _ _ ?_ zz, (N' p hp).2⟩
  rcases List.mem_cons.mp hp with rfl | hp
  · exact Ne.symm hCD
  · exact offC p hp
end
end Mine
namespace Mine
open PyProof.Rows.LCg
section
variable {prog : Program} {w : World} {A : Around} {E : Value → Shared → Prop} {s : Shared} {h₀ : Heap} {env : Env} {target iter : Expr} {pos : Pos} {body : List Stmt} {Q : Flow → Shared → Prop}
/-- a turn's end -/
def ForStep (h₀ : Heap) (L I : Addr) (oI : Obj) (Jn : (Str → Option Value) → List (Addr × Obj) → Prop) (s : Shared) (f : Flow) (s₂ : Shared) : Prop :=
  f = .next ∧ ∃ h' tk m₂ news₂, s₂ = { s with heap := h', toks := tk } ∧ Fr h₀ L h' m₂ ∧ News h₀ L h' ((I, oI) :: news₂) ∧ (∀ p ∈ news₂, p.1 ≠ I) ∧ Jn m₂ news₂
def ForTurn (prog : Program) (w : World) (A : Around) (E : Value → Shared → Prop) (h₀ : Heap) (env : Env) (target : Expr) (body : List Stmt) (P : Nat → Value → Prop) (J : Nat → (Str → Option Value) → List (Addr × Obj) → Prop) : Prop :=
  ∀ i v m₁ news₁ I oI s₁, P i v → J i m₁ news₁ → Fr h₀ env.locals s₁.heap m₁ → News h₀ env.locals s₁.heap ((I, oI) :: news₁) → (∀ p ∈ news₁, p.1 ≠ I) →
    wpAny (model prog w) A (assign target env v) (fun _ s₃ => wpAny (model prog w) A (execs body env) (ForStep h₀ env.locals I oI (J (i + 1)) s₁) E s₃) E s₁
/-- where a loop's iterable stands: a list, or a range from 0 -/
def ForFrom (prog : Program) (w : World) (A : Around) (E : Value → Shared → Prop) (h₀ : Heap) (env : Env) (target : Expr) (body : List Stmt) (Q : Flow → Shared → Prop) (xv : Value) (s₁ : Shared) : Prop :=
  (∃ ax oax its k m news J, xv = .ref ax ∧ A.handled = none ∧ oax.cls = .type "list" ∧ oax.data = .seq its k ∧ (h₀.get? ax = some oax ∨ ∀ i m' nw, J i m' nw → (ax, oax) ∈ nw) ∧ Fr h₀ env.locals s₁.heap m ∧ News h₀ env.locals s₁.heap news ∧ J 0 m news ∧
    ForTurn prog w A E h₀ env target body (fun i v => its[i]? = some v) J ∧ ∀ h' tk m' news', Fr h₀ env.locals h' m' → News h₀ env.locals h' news' → J its.size m' news' → Q .next { s₁ with heap := h', toks := tk }) ∨
  (∃ (r : Addr) (b : Int) (t u v : Tok) (n : Nat) (m : Str → Option Value) (news : List (Addr × Obj)) (J : Nat → (Str → Option Value) → List (Addr × Obj) → Prop), xv = .ref r ∧ A.handled = none ∧ IsRange s₁.heap r 0 b 1 t u v ∧ Builtin.Range.small 0 b 1 = true ∧ Builtin.Range.rangeSize 0 b 1 = ((n : Nat) : Int) ∧ Fr h₀ env.locals s₁.heap m ∧ News h₀ env.locals s₁.heap news ∧ J 0 m news ∧
    ForTurn prog w A E h₀ env target body (fun i v => i < n ∧ ∃ t, v = .int ((i : Nat) : Int) t) J ∧ ∀ h' tk m' news', Fr h₀ env.locals h' m' → News h₀ env.locals h' news' → J n m' news' → Q .next { s₁ with heap := h', toks := tk })
theorem for_any (h : wpAny (model prog w) A (eval iter env) (ForFrom prog w A E h₀ env target body Q) E s) (hg : ∀ I v, letOwnedTupleGo target (.ref I) v = pure () := by intro _ _; rfl) (hs : ∀ x, foldedSetIterable iter env x = pure x := by intro _; rfl)
    (hE : PassesOwn (model prog w) A env E := by passes_own) : wpAny (model prog w) A (exec (.For target iter body [] pos) env) Q E s := by
  refine For_invT h₀ (wpAny_mono h (fun xv s₁ h₁ => ?_) fun _ _ e => e) hs hE
  rcases h₁ with ⟨ax, oax, its, k, m, news, J, rfl, hh, hc, hd, hin, F, N, hJ, turn, done⟩ | ⟨r, b, t, u, v, n, m, news, J, rfl, hh, hr, hsm, hn, F, N, hJ, turn, done⟩
  · have hax : s₁.heap.get? ax = some oax := by
      rcases hin with e | e
      · exact F.keep _ _ e
      · exact (N _ (e 0 m news hJ)).1
    have hl : s₁.heap.IsList ax its := ⟨oax, hax, hc, k, hd⟩
    have hlt : ax < s₁.heap.objs.size := Heap.lt_size hax
    refine wpAny_pyIter_list hl ?_
    have up : ∀ b o, s₁.heap.get? b = some o → (s₁.heap.push { cls := .type "list_iterator", data := .fields #[.ref ax, .int 0 0] }).get? b = some o := fun b o e => Heap.get?_push_of_some _ e
    have hI₀ : h₀.get? s₁.heap.objs.size = none := next_is_new F
    refine ⟨_, _, _, its.size, _, _, m, news, fun i m' nw => J i m' nw, rfl, Walks.list (prog := prog) (w := w) hh s₁.heap.objs.size ax (Nat.ne_of_lt hlt) its, ?_, ?_, ?_, ⟨⟨_, Heap.get?_push_size _ rfl, rfl, rfl⟩, hl.push _⟩, F.keeps up, N.grown up, ?_, hJ, ?_, ?_⟩
    · intro hm
      rcases List.mem_cons.mp hm with e | hm
      · exact absurd F.ns.lt (e ▸ Nat.lt_irrefl _)
      · have e := List.mem_singleton.mp hm
        rcases hin with q | q
        · rw [← e, Heap.get?_none_of_le F.above] at q; cases q
        · exact (N _ (q 0 m news hJ)).2.1 e.symm
    · intro b hb
      rw [List.mem_singleton.mp hb]; exact hI₀
    · intro p hp hI
      exact absurd (Heap.lt_size (N p hp).1) ((List.mem_singleton.mp hI) ▸ Nat.lt_irrefl _)
    · intro i s' v Q' _ hq
      exact wpAny_of_eq (hg _ v) hq
    · intro i v m₁ news₁ s₂ own hi hP hj hoff ho1 ho2 ho3 hst F₁ N₁
      obtain ⟨oI, eI, _⟩ := hst.1
      have hIown : (s₁.heap.objs.size, oI) ∈ own := ho3 _ List.mem_cons_self hI₀ oI eI
      have N₁' : News h₀ env.locals s₂.heap ((s₁.heap.objs.size, oI) :: news₁) := fun p hp => by
        rcases List.mem_cons.mp hp with rfl | hp
        · exact N₁ _ (List.mem_append_left _ hIown)
        · exact N₁ _ (List.mem_append_right _ hp)
      refine wpAny_mono (turn i v m₁ news₁ _ oI s₂ hP hj F₁ N₁' (fun p hp e => hoff p hp (List.mem_singleton.mpr e))) (fun _ s₃ h₃ => wpAny_mono h₃ (fun f s₄ h₄ => ?_) fun _ _ e => e) fun _ _ e => e
      obtain ⟨rfl, h', tk, m₂, news₂, rfl, F₂, N₂, off₂, hj₂⟩ := h₄
      refine ⟨rfl, h', tk, m₂, news₂, rfl, F₂, fun p hp => ?_, fun p hp e => off₂ p hp (List.mem_singleton.mp e), hj₂⟩
      rcases List.mem_append.mp hp with hp | hp
      · rcases List.mem_cons.mp (ho1 p hp) with e | e
        · have e2 := ho2 p hp
          rw [e, eI] at e2
          have : p = (s₁.heap.objs.size, oI) := by
            cases p; cases e2; cases e; rfl
          rw [this]; exact N₂ _ List.mem_cons_self
        · have e := List.mem_singleton.mp e
          have e2 := ho2 p hp
          rcases hin with q | q
          · rw [e, F₁.keep _ _ q] at e2
            have : p = (ax, oax) := by cases p; cases e2; cases e; rfl
            have z := (N₁ p (List.mem_append_left _ hp)).2.2
            rw [e, q] at z; cases z
          · rw [e, (N₁ _ (List.mem_append_right _ (q _ _ _ hj))).1] at e2
            have : p = (ax, oax) := by cases p; cases e2; cases e; rfl
            rw [this]; exact N₂ _ (List.mem_cons_of_mem _ (q _ _ _ hj₂))
      · exact N₂ _ (List.mem_cons_of_mem _ hp)
    · intro h' tk m' news' F' N' _ hj
      exact done h' tk m' news' F' N' hj
  · refine wpAny_pyIter_range hr hsm ?_
    have hI₀ : h₀.get? s₁.heap.objs.size = none := next_is_new F
    refine ⟨_, _, _, n, _, _, m, news, fun i m' nw => J i m' nw, rfl, range_walks (prog := prog) (w := w) (I := s₁.heap.objs.size) hh 0 n, ?_, ?_, ?_, (by show IsRangeIter _ _ _ _ _; rw [hn]; simpa using Heap.get?_push_size _ rfl), F.keeps (fun _ _ e => Heap.get?_push_of_some _ e), N.grown (fun _ _ e => Heap.get?_push_of_some _ e), ?_, hJ, ?_, ?_⟩
    · intro hm
      exact absurd F.ns.lt ((List.mem_singleton.mp hm) ▸ Nat.lt_irrefl _)
    · intro b hb
      rw [List.mem_singleton.mp hb]; exact hI₀
    · intro p hp hI
      exact absurd (Heap.lt_size (N p hp).1) ((List.mem_singleton.mp hI) ▸ Nat.lt_irrefl _)
    · intro i s' v Q' _ hq
      exact wpAny_of_eq (hg _ v) hq
    · intro i v m₁ news₁ s₂ own hi hP hj hoff ho1 ho2 ho3 hst F₁ N₁
      obtain ⟨oI, eI⟩ : ∃ oI, s₂.heap.get? s₁.heap.objs.size = some oI := ⟨_, hst⟩
      have hIown := ho3 _ List.mem_cons_self hI₀ _ eI
      have N₁' : News h₀ env.locals s₂.heap ((s₁.heap.objs.size, oI) :: news₁) := fun p hp => by
        rcases List.mem_cons.mp hp with rfl | hp
        · exact N₁ _ (List.mem_append_left _ hIown)
        · exact N₁ _ (List.mem_append_right _ hp)
      refine wpAny_mono (turn i v m₁ news₁ _ _ s₂ (by obtain ⟨t, rfl⟩ := hP; exact ⟨hi, t, by rw [Int.zero_add]⟩) hj F₁ N₁' (fun p hp e => hoff p hp (List.mem_singleton.mpr e))) (fun _ s₃ h₃ => wpAny_mono h₃ (fun f s₄ h₄ => ?_) fun _ _ e => e) fun _ _ e => e
      obtain ⟨rfl, h', tk, m₂, news₂, rfl, F₂, N₂, off₂, hj₂⟩ := h₄
      refine ⟨rfl, h', tk, m₂, news₂, rfl, F₂, fun p hp => ?_, fun p hp e => off₂ p hp (List.mem_singleton.mp e), hj₂⟩
      rcases List.mem_append.mp hp with hp | hp
      · have e := List.mem_singleton.mp (ho1 p hp)
        have e2 := ho2 p hp
        rw [e, eI] at e2
        have : p = (s₁.heap.objs.size, oI) := by cases p; cases e2; cases e; rfl
        rw [this]; exact N₂ _ List.mem_cons_self
      · exact N₂ _ (List.mem_cons_of_mem _ hp)
    · intro h' tk m' news' F' N' _ hj
      exact done h' tk m' news' F' N' hj
end
section
variable {prog : Program} {w : World} {A : Around} {E : Value → Shared → Prop} {s : Shared} {h₀ : Heap} {L : Addr} {m : Str → Option Value} {env : Env} {elt ct : Expr} {x : Str} {scope : Scope} {cl : List (Str × Addr)} {its : Array Value} {news : List (Addr × Obj)}
/-- one turn of a comprehension of one clause -/
abbrev OneTurn (prog : Program) (w : World) (A : Around) (h₀ : Heap) (L : Addr) (m : Str → Option Value) (env : Env) (elt : Expr) (x : Str) (scope : Scope) (cl : List (Str × Addr)) (its : Array Value) (news : List (Addr × Obj)) (J : Nat → List Value → Prop) (s : Shared) : Prop :=
  ∀ i v ys I oI C oC D m₂ h tk (E' : Value → Shared → Prop), its[i]? = some v → J i ys → NsObj oC m₂ → m₂ x = some v → Fr h₀ L h m → News h₀ L h ((I, oI) :: (C, oC) :: (D, lst ys) :: news) → Off3 I C D news → ((@Ne Nat I C) ∧ (@Ne Nat I D) ∧ (@Ne Nat C D)) →
    wpAny (model prog w) A (eval elt (compEnvC scope cl C env)) (Stay h₀ L m s ((I, oI) :: (C, oC) :: (D, lst ys) :: news) fun y => J (i + 1) (ys ++ [y])) E' { s with heap := h, toks := tk }
theorem one_rest {Fin : List Value → List (Addr × Obj) → Prop} {S : List (Addr × Obj) → Prop} (J : Nat → List Value → Prop) (hS : S news) (turn : OneTurn prog w A h₀ L m env elt x scope cl its news J s) (fin : ∀ ys, J its.size ys → Fin ys news) :
    ∀ k i ys, i + k = its.size → J i ys → CompRest prog w A h₀ L m env elt x scope cl s S (fun i v => its[i]? = some v) Fin k i ys news
  | 0, i, ys, hi, hj => by
    have : i = its.size := by first | lia | omega
    subst this
    exact fin ys hj
  | k + 1, i, ys, hi, hj => by
    intro v I oI C oC D m₂ h tk E' hv hC hx F N off ne
    refine wpAny_mono (turn i v ys I oI C oC D m₂ h tk E' hv hj hC hx F N off ne) (fun y s' h' => ?_) fun _ _ e => e
    obtain ⟨h', tk', rfl, F', N', hj'⟩ := h'
    exact ⟨h', tk', news, rfl, F', N', off, hS, one_rest J hS turn fin k (i + 1) _ (by first | lia | omega) hj'⟩
abbrev OneTurnT (prog : Program) (w : World) (A : Around) (h₀ : Heap) (L : Addr) (m : Str → Option Value) (env : Env) (ct elt : Expr) (x : Str) (scope : Scope) (cl : List (Str × Addr)) (its : Array Value) (news : List (Addr × Obj)) (J : Nat → List Value → Prop) (s : Shared) : Prop :=
  ∀ i v ys I oI C oC D m₂ h tk (E' : Value → Shared → Prop), its[i]? = some v → J i ys → NsObj oC m₂ → m₂ x = some v → Fr h₀ L h m → News h₀ L h ((I, oI) :: (C, oC) :: (D, lst ys) :: news) → Off3 I C D news → ((@Ne Nat I C) ∧ (@Ne Nat I D) ∧ (@Ne Nat C D)) →
    wpAny (model prog w) A (isTrue ct (compEnvC scope cl C env) (eval ct (compEnvC scope cl C env))) (fun ok s' => if ok = true then
      wpAny (model prog w) A (eval elt (compEnvC scope cl C env)) (Stay h₀ L m s ((I, oI) :: (C, oC) :: (D, lst ys) :: news) fun y => J (i + 1) (ys ++ [y])) E' s'
      else Stay h₀ L m s ((I, oI) :: (C, oC) :: (D, lst ys) :: news) (fun _ => J (i + 1) ys) Value.none s') E' { s with heap := h, toks := tk }
theorem one_restT {Fin : List Value → List (Addr × Obj) → Prop} {S : List (Addr × Obj) → Prop} (J : Nat → List Value → Prop) (hS : S news) (turn : OneTurnT prog w A h₀ L m env ct elt x scope cl its news J s) (fin : ∀ ys, J its.size ys → Fin ys news) :
    ∀ k i ys, i + k = its.size → J i ys → LCt.CompRestT prog w A h₀ L m env ct elt x scope cl s S (fun i v => its[i]? = some v) Fin k i ys news
  | 0, i, ys, hi, hj => by
    have : i = its.size := by first | lia | omega
    subst this
    exact fin ys hj
  | k + 1, i, ys, hi, hj => by
    intro v I oI C oC D m₂ h tk E' hv hC hx F N off ne
    refine wpAny_mono (turn i v ys I oI C oC D m₂ h tk E' hv hj hC hx F N off ne) (fun ok s' h' => ?_) fun _ _ e => e
    cases ok with
    | true =>
      simp only [if_true] at h' ⊢
      refine wpAny_mono h' (fun y s' h' => ?_) fun _ _ e => e
      obtain ⟨h', tk', rfl, F', N', hj'⟩ := h'
      exact ⟨h', tk', news, rfl, F', N', off, hS, one_restT J hS turn fin k (i + 1) _ (by first | lia | omega) hj'⟩
    | false =>
      simp only [Bool.false_eq_true, if_false] at h' ⊢
      obtain ⟨h', tk', rfl, F', N', hj'⟩ := h'
      exact ⟨h', tk', news, rfl, F', N', off, hS, one_restT J hS turn fin k (i + 1) _ (by first | lia | omega) hj'⟩
end
end Mine
namespace Mine
def Hold (P : Prop) : Prop := P
theorem hold_of {P : Prop} (h : Hold P) : P := h
def Low (lo : Nat) (l : List (Addr × Obj)) : Prop := ∀ p ∈ l, p.1 < lo
theorem lowNe {lo d : Nat} {l : List (Addr × Obj)} (h : Low lo l) (hd : lo ≤ d) : ∀ p ∈ l, p.1 ≠ d := fun p hp => Nat.ne_of_lt (Nat.lt_of_lt_of_le (h p hp) hd)
theorem fr_kst {g h : Heap} {L : Addr} {m : Str → Option Value} {ps : List (Str × Value)} (F : Fr g L h m) (hp : ∀ p ∈ ps, m p.1 = some p.2) : Fr g L h (kstB m ps) := by
  rw [show kstB m ps = m from funext fun z => kstB_eq hp (fun _ => rfl)]; exact F
theorem cut_first {M : Model} {A : Around} {E : Value → Shared → Prop} {s : Shared} {env : Env} {st : Stmt} {rest : List Stmt} {Q : Flow → Shared → Prop} (P : Shared → Prop) (h1 : wpAny M A (exec st env) (fun f s' => Hold (f = .next ∧ P s')) E s) (h2 : ∀ s', P s' → wpAny M A (execs rest env) Q E s') : wpAny M A (execs (st :: rest) env) Q E s :=
  wpAny_execs_cons (wpAny_mono h1 (fun f s' h => by obtain ⟨rfl, hp⟩ := h; exact h2 s' hp) (fun _ _ e => e))
abbrev S (l : List Nat) : Str := ⟨l.toArray⟩
theorem allLt_mem {d : Nat} : ∀ {l : List (Addr × Obj)}, AllLt d l → ∀ p ∈ l, p.1 < d
  | [], _, _, h => nomatch h
  | _ :: _, x, p, h => by
    rcases List.mem_cons.mp h with rfl | h
    · exact x.1
    · exact allLt_mem x.2 p h
end Mine
namespace Mine
/-- a dict's entries by what its names mean -/
def FnOk (es : List DictEntry) (f : Str → Option Value) (b : Nat) : Prop := (∀ y, getL y es = some (f y)) ∧ es.length ≤ b
def upd (f : Str → Option Value) (name : Str) (v : Value) : Str → Option Value := fun y => if y = name then some v else f y
theorem isStr_put {e : DictEntry} {name y : Str} (h : e.key.isStr name = true) : e.key.isStr y = decide (y = name) := by
  obtain ⟨_, key, _⟩ := e
  cases key with
  | str x t =>
    have : x = name := beq_iff_eq.mp h
    subst this
    show (x == y) = _
    by_cases q : y = x
    · subst q; simp
    · simp [q, Ne.symm q]
  | _ => cases h
theorem find_put {name y : Str} {hsh : Int} {t : Tok} {v : Value} : ∀ es : List DictEntry,
    ((putL name hsh (.str name t) v es).find? (·.key.isStr y)).map (·.val) = if y = name then some v else (es.find? (·.key.isStr y)).map (·.val)
  | [] => by
    have e : Value.isStr (.str name t) y = decide (y = name) := isStr_put (e := ⟨hsh, .str name t, v⟩) (by show (name == name) = true; simp)
    simp only [putL, List.find?_cons, e, List.find?_nil]
    by_cases q : y = name <;> simp [q]
  | e :: r => by
    simp only [putL]
    cases he : e.key.isStr name with
    | true =>
      have e2 := isStr_put (y := y) he
      simp only [if_true, List.find?_cons, e2]
      by_cases q : y = name <;> simp [q]
    | false =>
      simp only [Bool.false_eq_true, if_false, List.find?_cons]
      cases hy : e.key.isStr y with
      | true =>
        have q : y ≠ name := fun q => by subst q; rw [he] at hy; cases hy
        simp [q]
      | false => exact find_put r
theorem any_put {name : Str} {hsh : Int} {t : Tok} {v : Value} : ∀ es : List DictEntry, (putL name hsh (.str name t) v es).any (·.refKey) = es.any (·.refKey)
  | [] => rfl
  | e :: r => by
    simp only [putL]
    cases he : e.key.isStr name with
    | true => simp [DictEntry.refKey]
    | false => simp [any_put r]
theorem len_put {name : Str} {hsh : Int} {t : Tok} {v : Value} : ∀ es : List DictEntry, (putL name hsh (.str name t) v es).length ≤ es.length + 1 ∧ ((es.find? (·.key.isStr name)).isSome = true → (putL name hsh (.str name t) v es).length = es.length)
  | [] => ⟨Nat.le_refl _, fun h => by cases h⟩
  | e :: r => by
    have ih := len_put (name := name) (hsh := hsh) (t := t) (v := v) r
    simp only [putL]
    cases he : e.key.isStr name with
    | true => exact ⟨by simp, fun _ => by simp⟩
    | false =>
      refine ⟨by simpa using ih.1, fun h => ?_⟩
      rw [List.find?_cons, he] at h
      simpa using ih.2 h
theorem getL_find (y : Str) (es : List DictEntry) : getL y es = match (es.find? (·.key.isStr y)).map (·.val) with | some v => some (some v) | none => if es.any (·.refKey) then none else some none := by
  unfold getL
  cases es.find? (·.key.isStr y) <;> rfl
theorem FnOk.put {es : List DictEntry} {f : Str → Option Value} {b : Nat} (G : FnOk es f b) (name : Str) (hsh : Int) (t : Tok) (v : Value) : FnOk (putL name hsh (.str name t) v es) (upd f name v) (b + 1) := by
  refine ⟨fun y => ?_, Nat.le_trans (len_put es).1 (Nat.succ_le_succ G.2)⟩
  rw [getL_find, find_put, any_put]
  unfold upd
  by_cases q : y = name
  · simp [q]
  · rw [if_neg q, if_neg q, ← getL_find]; exact G.1 y
theorem FnOk.put' {es : List DictEntry} {f : Str → Option Value} {b : Nat} (G : FnOk es f b) {name : Str} (hsh : Int) (t : Tok) (v : Value) (hf : (f name).isSome = true) : FnOk (putL name hsh (.str name t) v es) (upd f name v) b := by
  refine ⟨(G.put name hsh t v).1, Nat.le_trans (Nat.le_of_eq ((len_put es).2 ?_)) G.2⟩
  have h := G.1 name
  unfold getL at h
  revert h
  cases es.find? (·.key.isStr name) with
  | some e => exact fun _ => rfl
  | none =>
    intro h
    simp only at h
    split at h
    · cases h
    · injection h with h; rw [← h] at hf; cases hf
theorem upd_pp {d : Addr} {o o' : Obj} {post : List (Addr × Obj)} (h2 : ∀ p ∈ post, p.1 ≠ d) : ∀ {pre : List (Addr × Obj)}, (∀ p ∈ pre, p.1 ≠ d) → Upd d o o' (pre ++ (d, o) :: post) (pre ++ (d, o') :: post)
  | [], _ => .head h2
  | p :: _, h => .tail (h p (.head _)) (upd_pp h2 fun q hq => h q (.tail _ hq))
/-- what the lexer's class says -/
theorem k744 (w : World) : findIn (MineH.KH w.params) (.ref 744) "__setattr__" = some (some (.builtin "object.__setattr__")) ∧ plainOver (MineH.KH w.params) 744 = true ∧ hasDictIn (MineH.KH w.params) 744 = true := by
  exact ⟨by kernel_rfl, by kernel_rfl, by kernel_rfl⟩
section
variable {prog : Program} {w : World} {A : Around} {E : Value → Shared → Prop} {h : Heap} {gn : Array GenState} {dr : Drawn} {os : OsState} {X : Nat} {h₀ : Heap} {L : Addr} {m : Str → Option Value}
theorem set_pp {pre post : List (Addr × Obj)} {es : List DictEntry} {n : Nat} {f : Str → Option Value} {b : Nat} {lx dlx : Addr} {name : Str} {v : Value} {Q : Unit → Shared → Prop} (F : Fr h₀ L h m) (X₀ : (MineH.KH w.params).In h₀)
    (N : News h₀ L h (pre ++ (dlx, dictOf es n) :: post)) (hlx : (lx, inst 744 dlx) ∈ pre ++ (dlx, dictOf es n) :: post) (h1 : ∀ p ∈ pre, p.1 ≠ dlx) (h2 : ∀ p ∈ post, p.1 ≠ dlx) (G : FnOk es f b) (hb : b < 1000)
    (ht : takerIn (MineH.KH w.params) 744 name = some none)
    (H : ∀ h' hsh t n' tk, Fr h₀ L h' m → News h₀ L h' (pre ++ (dlx, dictOf (putL name hsh (.str name t) v es) n') :: post) → Q () ⟨h', gn, dr, tk, os⟩) : wpAny (model prog w) A (setAttr (.ref lx) name v) Q E ⟨h, gn, dr, X, os⟩ :=
  set_dict (s := ⟨h, gn, dr, X, os⟩) F X₀ N ⟨(N _ hlx).1, rfl, rfl, (N (dlx, _) (by simp)).1⟩ rfl (k744 w).1 (k744 w).2.1 ht (k744 w).2.2 (by rw [G.1]; rfl) rfl (upd_pp h2 h1) (Nat.le_trans (len_put es).1 (Nat.le_trans (Nat.succ_le_succ G.2) hb)) fun h' F' N' => H h' _ _ _ _ F' N'
end
/-- the lexer's places and what it reads -/
structure LexC where
  dlx : Nat
  lx : Nat
  dsio : Nat
  sio : Nat
  dq1 : Nat
  dq2 : Nat
  dq3 : Nat
  x : Str
  wc : Str
def cstV (c : LexC) (y : Str) : Option Value :=
  if y = "instream" then some (.ref c.sio) else if y = "posix" then some (.bool false) else if y = "whitespace_split" then some (.bool true) else if y = "pushback" then some (.ref c.dq1)
  else if y = "filestack" then some (.ref c.dq2) else if y = "_pushback_chars" then some (.ref c.dq3) else if y = "source" then some .none else none
def cstS (c : LexC) (y : Str) : Option Str :=
  if y = "eof" then some "" else if y = "commenters" then some "" else if y = "wordchars" then some c.wc else if y = "whitespace" then some "" else if y = "quotes" then some "" else if y = "escape" then some "\\"
  else if y = "escapedquotes" then some "\"" else if y = "_punctuation_chars" then some "\r\n" else none
/-- what the lexer's attributes mean -/
structure LxF (c : LexC) (f : Str → Option Value) (st tk : Value) : Prop where
  V : ∀ y v, cstV c y = some v → f y = some v
  S : ∀ y x, cstS c y = some x → ∃ t, f y = some (.str x t)
  D : ∃ t, f "debug" = some (.int 0 t)
  N : ∃ ln t, f "lineno" = some (.int ln t)
  st : f "state" = some st
  tk : f "token" = some tk
  no : f "read_token" = none ∧ f "get_token" = none
theorem upd_ne {f : Str → Option Value} {name y : Str} {v : Value} (h : y ≠ name) : upd f name v y = f y := if_neg h
theorem upd_eq {f : Str → Option Value} {name : Str} {v : Value} : upd f name v name = some v := if_pos rfl
theorem cst_ne {c : LexC} {name : Str} (h : (["state", "token", "lineno"] : List Str).contains name = true) : cstV c name = none ∧ cstS c name = none := by
  have h := List.contains_iff_mem.mp h
  simp only [List.mem_cons, List.mem_nil_iff, or_false] at h
  rcases h with rfl | rfl | rfl <;> exact ⟨rfl, rfl⟩
theorem LxF.step {c : LexC} {f : Str → Option Value} {st tk : Value} (K : LxF c f st tk) {name : Str} (v : Value) (h : (["state", "token", "lineno"] : List Str).contains name = true) :
    (∀ y u, cstV c y = some u → upd f name v y = some u) ∧ (∀ y x, cstS c y = some x → ∃ t, upd f name v y = some (.str x t)) := by
  obtain ⟨e1, e2⟩ := cst_ne (c := c) h
  exact ⟨fun y u e => by rw [upd_ne (fun q => by rw [q, e1] at e; cases e)]; exact K.V y u e, fun y x e => by rw [upd_ne (fun q => by rw [q, e2] at e; cases e)]; exact K.S y x e⟩
theorem LxF.setSt {c : LexC} {f : Str → Option Value} {st tk : Value} (K : LxF c f st tk) (v : Value) : LxF c (upd f "state" v) v tk :=
  ⟨(K.step v (by decide +kernel)).1, (K.step v (by decide +kernel)).2, by rw [upd_ne (by decide +kernel)]; exact K.D, by rw [upd_ne (by decide +kernel)]; exact K.N, upd_eq, by rw [upd_ne (by decide +kernel)]; exact K.tk, ⟨by rw [upd_ne (by decide +kernel)]; exact K.no.1, by rw [upd_ne (by decide +kernel)]; exact K.no.2⟩⟩
theorem LxF.setTk {c : LexC} {f : Str → Option Value} {st tk : Value} (K : LxF c f st tk) (v : Value) : LxF c (upd f "token" v) st v :=
  ⟨(K.step v (by decide +kernel)).1, (K.step v (by decide +kernel)).2, by rw [upd_ne (by decide +kernel)]; exact K.D, by rw [upd_ne (by decide +kernel)]; exact K.N, by rw [upd_ne (by decide +kernel)]; exact K.st, upd_eq, ⟨by rw [upd_ne (by decide +kernel)]; exact K.no.1, by rw [upd_ne (by decide +kernel)]; exact K.no.2⟩⟩
theorem LxF.setLn {c : LexC} {f : Str → Option Value} {st tk : Value} (K : LxF c f st tk) (i : Int) (t : Tok) : LxF c (upd f "lineno" (.int i t)) st tk :=
  ⟨(K.step _ (by decide +kernel)).1, (K.step _ (by decide +kernel)).2, by rw [upd_ne (by decide +kernel)]; exact K.D, ⟨i, t, upd_eq⟩, by rw [upd_ne (by decide +kernel)]; exact K.st, by rw [upd_ne (by decide +kernel)]; exact K.tk, ⟨by rw [upd_ne (by decide +kernel)]; exact K.no.1, by rw [upd_ne (by decide +kernel)]; exact K.no.2⟩⟩
/-- what else lies beside the lexer's own objects -/
structure Apart (c : LexC) (rest : List (Addr × Obj)) : Prop where
  lx : (c.lx, inst 744 c.dlx) ∈ rest
  q1 : ∃ n, (c.dq1, dqOf [] n) ∈ rest
  q2 : ∃ n, (c.dq2, dqOf [] n) ∈ rest
  off : ∀ q ∈ rest, q.1 ≠ c.dsio ∧ q.1 ≠ c.dq3 ∧ q.1 ≠ c.dlx
  ne : c.sio ≠ c.dsio ∧ c.dq3 ≠ c.dsio ∧ c.dlx ≠ c.dsio ∧ c.dsio ≠ c.dq3 ∧ c.sio ≠ c.dq3 ∧ c.dlx ≠ c.dq3 ∧ c.dsio ≠ c.dlx ∧ c.sio ≠ c.dlx ∧ c.dq3 ≠ c.dlx
/-- the lexer within a ledger -/
def LI (w : World) (c : LexC) (rest led : List (Addr × Obj)) (p : Nat) (st tk : Value) (pb : List Nat) : Prop :=
  ∃ (es : List DictEntry) (n : Nat) (f : Str → Option Value) (t1 t2 t3 t4 t5 t6 tp : Tok) (pn : Int), led = (c.dsio, sioD w t1 t2 t3 t4 t5 t6 c.x p) :: (c.sio, inst 609 c.dsio) :: (c.dq3, dqOf (pb.map fun d => .str (ch1 d) tp) pn) :: (c.dlx, dictOf es n) :: rest ∧
    FnOk es f 900 ∧ LxF c f st tk ∧ Apart c rest
section
variable {prog : Program} {w : World} {A : Around} {E : Value → Shared → Prop} {h : Heap} {gn : Array GenState} {dr : Drawn} {os : OsState} {X : Nat} {h₀ : Heap} {L : Addr} {m : Str → Option Value} {c : LexC} {rest led : List (Addr × Obj)} {p : Nat} {st tk : Value} {pb : List Nat}
theorem li_set {name : Str} {v st' tk' : Value} {Q : Unit → Shared → Prop} (F : Fr h₀ L h m) (X₀ : (MineH.KH w.params).In h₀) (N : News h₀ L h led) (I : LI w c rest led p st tk pb)
    (ht : takerIn (MineH.KH w.params) 744 name = some none) (hs : ∀ f, LxF c f st tk → (f name).isSome = true ∧ LxF c (upd f name v) st' tk')
    (H : ∀ h' led' tc, Fr h₀ L h' m → News h₀ L h' led' → LI w c rest led' p st' tk' pb → Q () ⟨h', gn, dr, tc, os⟩) : wpAny (model prog w) A (setAttr (.ref c.lx) name v) Q E ⟨h, gn, dr, X, os⟩ := by
  obtain ⟨es, n, f, t1, t2, t3, t4, t5, t6, tp, pn, rfl, G, K, P⟩ := I
  refine set_pp (pre := [_, _, _]) F X₀ N (.tail _ (.tail _ (.tail _ (.tail _ P.lx)))) ?_ (fun q hq => (P.off q hq).2.2) G (by decide) ht fun h' hsh t n' tc F' N' => H h' _ _ F' N' ⟨_, n', upd f name v, t1, t2, t3, t4, t5, t6, tp, pn, rfl, G.put' hsh t v (hs f K).1, (hs f K).2, P⟩
  intro q hq
  obtain ⟨a1, a2, a3, a4, a5, a6, a7, a8, a9⟩ := P.ne
  simp only [List.mem_cons, List.mem_nil_iff, or_false] at hq
  rcases hq with rfl | rfl | rfl
  · exact a7
  · exact a8
  · exact a9
theorem li_setSt {v : Value} {Q : Unit → Shared → Prop} (F : Fr h₀ L h m) (X₀ : (MineH.KH w.params).In h₀) (N : News h₀ L h led) (I : LI w c rest led p st tk pb)
    (H : ∀ h' led' tc, Fr h₀ L h' m → News h₀ L h' led' → LI w c rest led' p v tk pb → Q () ⟨h', gn, dr, tc, os⟩) : wpAny (model prog w) A (setAttr (.ref c.lx) "state" v) Q E ⟨h, gn, dr, X, os⟩ :=
  li_set F X₀ N I (by kernel_rfl) (fun f K => ⟨by rw [K.st]; rfl, K.setSt v⟩) H
theorem li_setTk {v : Value} {Q : Unit → Shared → Prop} (F : Fr h₀ L h m) (X₀ : (MineH.KH w.params).In h₀) (N : News h₀ L h led) (I : LI w c rest led p st tk pb)
    (H : ∀ h' led' tc, Fr h₀ L h' m → News h₀ L h' led' → LI w c rest led' p st v pb → Q () ⟨h', gn, dr, tc, os⟩) : wpAny (model prog w) A (setAttr (.ref c.lx) "token" v) Q E ⟨h, gn, dr, X, os⟩ :=
  li_set F X₀ N I (by kernel_rfl) (fun f K => ⟨by rw [K.tk]; rfl, K.setTk v⟩) H
theorem li_setLn {i : Int} {t : Tok} {Q : Unit → Shared → Prop} (F : Fr h₀ L h m) (X₀ : (MineH.KH w.params).In h₀) (N : News h₀ L h led) (I : LI w c rest led p st tk pb)
    (H : ∀ h' led' tc, Fr h₀ L h' m → News h₀ L h' led' → LI w c rest led' p st tk pb → Q () ⟨h', gn, dr, tc, os⟩) : wpAny (model prog w) A (setAttr (.ref c.lx) "lineno" (.int i t)) Q E ⟨h, gn, dr, X, os⟩ :=
  li_set F X₀ N I (by kernel_rfl) (fun f K => ⟨by obtain ⟨_, _, e⟩ := K.N; rw [e]; rfl, K.setLn i t⟩) H
/-- the class has no such name, so the dict's value comes back -/
theorem li_get {name : Str} {v : Value} {Q : Value → Shared → Prop} (F : Fr h₀ L h m) (X₀ : (MineH.KH w.params).In h₀) (N : News h₀ L h led) (I : LI w c rest led p st tk pb)
    (hn : plainGet (MineH.KH w.params) 744 name = true ∧ findIn (MineH.KH w.params) (.ref 744) name = some none) (hv : ∀ f, LxF c f st tk → f name = some v) (hh : handedIn v = true)
    (H : ∀ tc, Q v ⟨h, gn, dr, tc, os⟩) : wpAny (model prog w) A (getAttr (.ref c.lx) name true) Q E ⟨h, gn, dr, X, os⟩ := by
  obtain ⟨es, n, f, t1, t2, t3, t4, t5, t6, tp, pn, rfl, G, K, P⟩ := I
  exact get_own (s := ⟨h, gn, dr, X, os⟩) F X₀ ⟨(N _ (.tail _ (.tail _ (.tail _ (.tail _ P.lx))))).1, rfl, rfl, (N (c.dlx, dictOf es n) (.tail _ (.tail _ (.tail _ (.head _))))).1⟩ hn.1 (k744 w).2.2 hn.2 rfl (by rw [G.1, hv f K]) hh (H _)
theorem li_getS {name : Str} {x : Str} {Q : Value → Shared → Prop} (F : Fr h₀ L h m) (X₀ : (MineH.KH w.params).In h₀) (N : News h₀ L h led) (I : LI w c rest led p st tk pb)
    (hn : plainGet (MineH.KH w.params) 744 name = true ∧ findIn (MineH.KH w.params) (.ref 744) name = some none) (hv : ∀ f, LxF c f st tk → ∃ t, f name = some (.str x t))
    (H : ∀ t tc, Q (.str x t) ⟨h, gn, dr, tc, os⟩) : wpAny (model prog w) A (getAttr (.ref c.lx) name true) Q E ⟨h, gn, dr, X, os⟩ := by
  obtain ⟨es, n, f, t1, t2, t3, t4, t5, t6, tp, pn, rfl, G, K, P⟩ := I
  obtain ⟨t, e⟩ := hv f K
  exact get_own (s := ⟨h, gn, dr, X, os⟩) F X₀ ⟨(N _ (.tail _ (.tail _ (.tail _ (.tail _ P.lx))))).1, rfl, rfl, (N (c.dlx, dictOf es n) (.tail _ (.tail _ (.tail _ (.head _))))).1⟩ hn.1 (k744 w).2.2 hn.2 rfl (by rw [G.1, e]) rfl (H _ _)
theorem li_getI {name : Str} {i₀ : Option Int} {Q : Value → Shared → Prop} (F : Fr h₀ L h m) (X₀ : (MineH.KH w.params).In h₀) (N : News h₀ L h led) (I : LI w c rest led p st tk pb)
    (hn : plainGet (MineH.KH w.params) 744 name = true ∧ findIn (MineH.KH w.params) (.ref 744) name = some none) (hv : ∀ f, LxF c f st tk → ∃ i t, f name = some (.int i t) ∧ ∀ j, i₀ = some j → i = j)
    (H : ∀ i t tc, (∀ j, i₀ = some j → i = j) → Q (.int i t) ⟨h, gn, dr, tc, os⟩) : wpAny (model prog w) A (getAttr (.ref c.lx) name true) Q E ⟨h, gn, dr, X, os⟩ := by
  obtain ⟨es, n, f, t1, t2, t3, t4, t5, t6, tp, pn, rfl, G, K, P⟩ := I
  obtain ⟨i, t, e, e2⟩ := hv f K
  exact get_own (s := ⟨h, gn, dr, X, os⟩) F X₀ ⟨(N _ (.tail _ (.tail _ (.tail _ (.tail _ P.lx))))).1, rfl, rfl, (N (c.dlx, dictOf es n) (.tail _ (.tail _ (.tail _ (.head _))))).1⟩ hn.1 (k744 w).2.2 hn.2 rfl (by rw [G.1, e]) rfl (H _ _ _ e2)
end
end Mine
namespace Mine
section
variable {prog : Program} {w : World} {A : Around} {E : Value → Shared → Prop} {h : Heap} {gn : Array GenState} {dr : Drawn} {os : OsState} {X : Nat} {h₀ : Heap} {L : Addr} {m : Str → Option Value} {c : LexC} {rest led : List (Addr × Obj)} {p : Nat} {st tk : Value} {pb : List Nat}
variable {cn : Str} {cs : Scope} {L' a : Addr} {ccd : Value} {cl : List (Str × Addr)} {xp pos : Pos} {Q : Value → Shared → Prop}
theorem newsTl {h₀ h : Heap} {L : Addr} {q : Addr × Obj} {l : List (Addr × Obj)} (N : News h₀ L h (q :: l)) : News h₀ L h l := fun r hr => N r (.tail _ hr)
/-- self.name, by what getAttr gives -/
theorem at_self {name : Str} (F : Fr h₀ L h m) (hm : m "self" = some (.ref c.lx)) (hx : (envX cn cs L a ccd cl).kindOf "self" = some .local) (hk : cs.kind = .function)
    (H : wpAny (model prog w) A (getAttr (.ref c.lx) name true) Q E ⟨h, gn, dr, X, os⟩) : wpAny (model prog w) A (eval (.Attribute (.Name "self" xp) name pos) (envX cn cs L a ccd cl)) Q E ⟨h, gn, dr, X, os⟩ :=
  Attribute_Name_ (nameX_L (s := ⟨h, gn, dr, X, os⟩) F hm H hk hx (by decide +kernel))
theorem at_instream (F : Fr h₀ L h m) (X₀ : (MineH.KH w.params).In h₀) (N : News h₀ L h led) (I : LI w c rest led p st tk pb) (hm : m "self" = some (.ref c.lx)) (H : ∀ tc, Q (.ref c.sio) ⟨h, gn, dr, tc, os⟩) (hx : (envX cn cs L a ccd cl).kindOf "self" = some .local) (hk : cs.kind = .function) :
    wpAny (model prog w) A (eval (.Attribute (.Name "self" xp) "instream" pos) (envX cn cs L a ccd cl)) Q E ⟨h, gn, dr, X, os⟩ :=
  at_self F hm hx hk (li_get F X₀ N I ⟨by kernel_rfl, by kernel_rfl⟩ (fun f K => K.V _ _ rfl) rfl H)
theorem at_posix (F : Fr h₀ L h m) (X₀ : (MineH.KH w.params).In h₀) (N : News h₀ L h led) (I : LI w c rest led p st tk pb) (hm : m "self" = some (.ref c.lx)) (H : ∀ tc, Q (.bool false) ⟨h, gn, dr, tc, os⟩) (hx : (envX cn cs L a ccd cl).kindOf "self" = some .local) (hk : cs.kind = .function) :
    wpAny (model prog w) A (eval (.Attribute (.Name "self" xp) "posix" pos) (envX cn cs L a ccd cl)) Q E ⟨h, gn, dr, X, os⟩ :=
  at_self F hm hx hk (li_get F X₀ N I ⟨by kernel_rfl, by kernel_rfl⟩ (fun f K => K.V _ _ rfl) rfl H)
theorem at_whitespace_split (F : Fr h₀ L h m) (X₀ : (MineH.KH w.params).In h₀) (N : News h₀ L h led) (I : LI w c rest led p st tk pb) (hm : m "self" = some (.ref c.lx)) (H : ∀ tc, Q (.bool true) ⟨h, gn, dr, tc, os⟩) (hx : (envX cn cs L a ccd cl).kindOf "self" = some .local) (hk : cs.kind = .function) :
    wpAny (model prog w) A (eval (.Attribute (.Name "self" xp) "whitespace_split" pos) (envX cn cs L a ccd cl)) Q E ⟨h, gn, dr, X, os⟩ :=
  at_self F hm hx hk (li_get F X₀ N I ⟨by kernel_rfl, by kernel_rfl⟩ (fun f K => K.V _ _ rfl) rfl H)
theorem at_pushback (F : Fr h₀ L h m) (X₀ : (MineH.KH w.params).In h₀) (N : News h₀ L h led) (I : LI w c rest led p st tk pb) (hm : m "self" = some (.ref c.lx)) (H : ∀ tc, Q (.ref c.dq1) ⟨h, gn, dr, tc, os⟩) (hx : (envX cn cs L a ccd cl).kindOf "self" = some .local) (hk : cs.kind = .function) :
    wpAny (model prog w) A (eval (.Attribute (.Name "self" xp) "pushback" pos) (envX cn cs L a ccd cl)) Q E ⟨h, gn, dr, X, os⟩ :=
  at_self F hm hx hk (li_get F X₀ N I ⟨by kernel_rfl, by kernel_rfl⟩ (fun f K => K.V _ _ rfl) rfl H)
theorem at_filestack (F : Fr h₀ L h m) (X₀ : (MineH.KH w.params).In h₀) (N : News h₀ L h led) (I : LI w c rest led p st tk pb) (hm : m "self" = some (.ref c.lx)) (H : ∀ tc, Q (.ref c.dq2) ⟨h, gn, dr, tc, os⟩) (hx : (envX cn cs L a ccd cl).kindOf "self" = some .local) (hk : cs.kind = .function) :
    wpAny (model prog w) A (eval (.Attribute (.Name "self" xp) "filestack" pos) (envX cn cs L a ccd cl)) Q E ⟨h, gn, dr, X, os⟩ :=
  at_self F hm hx hk (li_get F X₀ N I ⟨by kernel_rfl, by kernel_rfl⟩ (fun f K => K.V _ _ rfl) rfl H)
theorem at_pbc (F : Fr h₀ L h m) (X₀ : (MineH.KH w.params).In h₀) (N : News h₀ L h led) (I : LI w c rest led p st tk pb) (hm : m "self" = some (.ref c.lx)) (H : ∀ tc, Q (.ref c.dq3) ⟨h, gn, dr, tc, os⟩) (hx : (envX cn cs L a ccd cl).kindOf "self" = some .local) (hk : cs.kind = .function) :
    wpAny (model prog w) A (eval (.Attribute (.Name "self" xp) "_pushback_chars" pos) (envX cn cs L a ccd cl)) Q E ⟨h, gn, dr, X, os⟩ :=
  at_self F hm hx hk (li_get F X₀ N I ⟨by kernel_rfl, by kernel_rfl⟩ (fun f K => K.V _ _ rfl) rfl H)
theorem at_source (F : Fr h₀ L h m) (X₀ : (MineH.KH w.params).In h₀) (N : News h₀ L h led) (I : LI w c rest led p st tk pb) (hm : m "self" = some (.ref c.lx)) (H : ∀ tc, Q (.none) ⟨h, gn, dr, tc, os⟩) (hx : (envX cn cs L a ccd cl).kindOf "self" = some .local) (hk : cs.kind = .function) :
    wpAny (model prog w) A (eval (.Attribute (.Name "self" xp) "source" pos) (envX cn cs L a ccd cl)) Q E ⟨h, gn, dr, X, os⟩ :=
  at_self F hm hx hk (li_get F X₀ N I ⟨by kernel_rfl, by kernel_rfl⟩ (fun f K => K.V _ _ rfl) rfl H)
theorem at_eof (F : Fr h₀ L h m) (X₀ : (MineH.KH w.params).In h₀) (N : News h₀ L h led) (I : LI w c rest led p st tk pb) (hm : m "self" = some (.ref c.lx)) (H : ∀ t tc, Q (.str "" t) ⟨h, gn, dr, tc, os⟩) (hx : (envX cn cs L a ccd cl).kindOf "self" = some .local) (hk : cs.kind = .function) :
    wpAny (model prog w) A (eval (.Attribute (.Name "self" xp) "eof" pos) (envX cn cs L a ccd cl)) Q E ⟨h, gn, dr, X, os⟩ :=
  at_self F hm hx hk (li_getS F X₀ N I ⟨by kernel_rfl, by kernel_rfl⟩ (fun f K => K.S _ _ rfl) H)
theorem at_commenters (F : Fr h₀ L h m) (X₀ : (MineH.KH w.params).In h₀) (N : News h₀ L h led) (I : LI w c rest led p st tk pb) (hm : m "self" = some (.ref c.lx)) (H : ∀ t tc, Q (.str "" t) ⟨h, gn, dr, tc, os⟩) (hx : (envX cn cs L a ccd cl).kindOf "self" = some .local) (hk : cs.kind = .function) :
    wpAny (model prog w) A (eval (.Attribute (.Name "self" xp) "commenters" pos) (envX cn cs L a ccd cl)) Q E ⟨h, gn, dr, X, os⟩ :=
  at_self F hm hx hk (li_getS F X₀ N I ⟨by kernel_rfl, by kernel_rfl⟩ (fun f K => K.S _ _ rfl) H)
theorem at_wordchars (F : Fr h₀ L h m) (X₀ : (MineH.KH w.params).In h₀) (N : News h₀ L h led) (I : LI w c rest led p st tk pb) (hm : m "self" = some (.ref c.lx)) (H : ∀ t tc, Q (.str c.wc t) ⟨h, gn, dr, tc, os⟩) (hx : (envX cn cs L a ccd cl).kindOf "self" = some .local) (hk : cs.kind = .function) :
    wpAny (model prog w) A (eval (.Attribute (.Name "self" xp) "wordchars" pos) (envX cn cs L a ccd cl)) Q E ⟨h, gn, dr, X, os⟩ :=
  at_self F hm hx hk (li_getS F X₀ N I ⟨by kernel_rfl, by kernel_rfl⟩ (fun f K => K.S _ _ rfl) H)
theorem at_whitespace (F : Fr h₀ L h m) (X₀ : (MineH.KH w.params).In h₀) (N : News h₀ L h led) (I : LI w c rest led p st tk pb) (hm : m "self" = some (.ref c.lx)) (H : ∀ t tc, Q (.str "" t) ⟨h, gn, dr, tc, os⟩) (hx : (envX cn cs L a ccd cl).kindOf "self" = some .local) (hk : cs.kind = .function) :
    wpAny (model prog w) A (eval (.Attribute (.Name "self" xp) "whitespace" pos) (envX cn cs L a ccd cl)) Q E ⟨h, gn, dr, X, os⟩ :=
  at_self F hm hx hk (li_getS F X₀ N I ⟨by kernel_rfl, by kernel_rfl⟩ (fun f K => K.S _ _ rfl) H)
theorem at_quotes (F : Fr h₀ L h m) (X₀ : (MineH.KH w.params).In h₀) (N : News h₀ L h led) (I : LI w c rest led p st tk pb) (hm : m "self" = some (.ref c.lx)) (H : ∀ t tc, Q (.str "" t) ⟨h, gn, dr, tc, os⟩) (hx : (envX cn cs L a ccd cl).kindOf "self" = some .local) (hk : cs.kind = .function) :
    wpAny (model prog w) A (eval (.Attribute (.Name "self" xp) "quotes" pos) (envX cn cs L a ccd cl)) Q E ⟨h, gn, dr, X, os⟩ :=
  at_self F hm hx hk (li_getS F X₀ N I ⟨by kernel_rfl, by kernel_rfl⟩ (fun f K => K.S _ _ rfl) H)
theorem at_escape (F : Fr h₀ L h m) (X₀ : (MineH.KH w.params).In h₀) (N : News h₀ L h led) (I : LI w c rest led p st tk pb) (hm : m "self" = some (.ref c.lx)) (H : ∀ t tc, Q (.str "\\" t) ⟨h, gn, dr, tc, os⟩) (hx : (envX cn cs L a ccd cl).kindOf "self" = some .local) (hk : cs.kind = .function) :
    wpAny (model prog w) A (eval (.Attribute (.Name "self" xp) "escape" pos) (envX cn cs L a ccd cl)) Q E ⟨h, gn, dr, X, os⟩ :=
  at_self F hm hx hk (li_getS F X₀ N I ⟨by kernel_rfl, by kernel_rfl⟩ (fun f K => K.S _ _ rfl) H)
theorem at_escapedquotes (F : Fr h₀ L h m) (X₀ : (MineH.KH w.params).In h₀) (N : News h₀ L h led) (I : LI w c rest led p st tk pb) (hm : m "self" = some (.ref c.lx)) (H : ∀ t tc, Q (.str "\"" t) ⟨h, gn, dr, tc, os⟩) (hx : (envX cn cs L a ccd cl).kindOf "self" = some .local) (hk : cs.kind = .function) :
    wpAny (model prog w) A (eval (.Attribute (.Name "self" xp) "escapedquotes" pos) (envX cn cs L a ccd cl)) Q E ⟨h, gn, dr, X, os⟩ :=
  at_self F hm hx hk (li_getS F X₀ N I ⟨by kernel_rfl, by kernel_rfl⟩ (fun f K => K.S _ _ rfl) H)
theorem at_punctuation_chars (F : Fr h₀ L h m) (X₀ : (MineH.KH w.params).In h₀) (N : News h₀ L h led) (I : LI w c rest led p st tk pb) (hm : m "self" = some (.ref c.lx)) (H : ∀ t tc, Q (.str "\r\n" t) ⟨h, gn, dr, tc, os⟩) (hx : (envX cn cs L a ccd cl).kindOf "self" = some .local) (hk : cs.kind = .function) :
    wpAny (model prog w) A (eval (.Attribute (.Name "self" xp) "_punctuation_chars" pos) (envX cn cs L a ccd cl)) Q E ⟨h, gn, dr, X, os⟩ :=
  at_self F hm hx hk (li_getS F X₀ N I ⟨by kernel_rfl, by kernel_rfl⟩ (fun f K => K.S _ _ rfl) H)
theorem li_state (F : Fr h₀ L h m) (X₀ : (MineH.KH w.params).In h₀) (N : News h₀ L h led) (I : LI w c rest led p st tk pb) (hh : handedIn st = true) (H : ∀ tc, Q st ⟨h, gn, dr, tc, os⟩) :
    wpAny (model prog w) A (getAttr (.ref c.lx) "state" true) Q E ⟨h, gn, dr, X, os⟩ :=
  li_get F X₀ N I ⟨by kernel_rfl, by kernel_rfl⟩ (fun f K => K.st) hh H
theorem at_state (F : Fr h₀ L h m) (X₀ : (MineH.KH w.params).In h₀) (N : News h₀ L h led) (I : LI w c rest led p st tk pb) (hm : m "self" = some (.ref c.lx)) (hh : handedIn st = true) (H : ∀ tc, Q st ⟨h, gn, dr, tc, os⟩) (hx : (envX cn cs L a ccd cl).kindOf "self" = some .local) (hk : cs.kind = .function) :
    wpAny (model prog w) A (eval (.Attribute (.Name "self" xp) "state" pos) (envX cn cs L a ccd cl)) Q E ⟨h, gn, dr, X, os⟩ :=
  at_self F hm hx hk (li_state F X₀ N I hh H)
theorem li_token (F : Fr h₀ L h m) (X₀ : (MineH.KH w.params).In h₀) (N : News h₀ L h led) (I : LI w c rest led p st tk pb) (hh : handedIn tk = true) (H : ∀ tc, Q tk ⟨h, gn, dr, tc, os⟩) :
    wpAny (model prog w) A (getAttr (.ref c.lx) "token" true) Q E ⟨h, gn, dr, X, os⟩ :=
  li_get F X₀ N I ⟨by kernel_rfl, by kernel_rfl⟩ (fun f K => K.tk) hh H
theorem at_token (F : Fr h₀ L h m) (X₀ : (MineH.KH w.params).In h₀) (N : News h₀ L h led) (I : LI w c rest led p st tk pb) (hm : m "self" = some (.ref c.lx)) (hh : handedIn tk = true) (H : ∀ tc, Q tk ⟨h, gn, dr, tc, os⟩) (hx : (envX cn cs L a ccd cl).kindOf "self" = some .local) (hk : cs.kind = .function) :
    wpAny (model prog w) A (eval (.Attribute (.Name "self" xp) "token" pos) (envX cn cs L a ccd cl)) Q E ⟨h, gn, dr, X, os⟩ :=
  at_self F hm hx hk (li_token F X₀ N I hh H)
theorem at_debug (F : Fr h₀ L h m) (X₀ : (MineH.KH w.params).In h₀) (N : News h₀ L h led) (I : LI w c rest led p st tk pb) (hm : m "self" = some (.ref c.lx)) (H : ∀ t tc, Q (.int 0 t) ⟨h, gn, dr, tc, os⟩) (hx : (envX cn cs L a ccd cl).kindOf "self" = some .local) (hk : cs.kind = .function) :
    wpAny (model prog w) A (eval (.Attribute (.Name "self" xp) "debug" pos) (envX cn cs L a ccd cl)) Q E ⟨h, gn, dr, X, os⟩ :=
  at_self F hm hx hk (li_getI (i₀ := some 0) F X₀ N I ⟨by kernel_rfl, by kernel_rfl⟩ (fun f K => let ⟨t, e⟩ := K.D; ⟨0, t, e, fun _ q => Option.some.inj q⟩) fun i t tc e => by rw [e 0 rfl]; exact H t tc)
theorem li_lineno (F : Fr h₀ L h m) (X₀ : (MineH.KH w.params).In h₀) (N : News h₀ L h led) (I : LI w c rest led p st tk pb) (H : ∀ i t tc, Q (.int i t) ⟨h, gn, dr, tc, os⟩) :
    wpAny (model prog w) A (getAttr (.ref c.lx) "lineno" true) Q E ⟨h, gn, dr, X, os⟩ :=
  li_getI (i₀ := none) F X₀ N I ⟨by kernel_rfl, by kernel_rfl⟩ (fun f K => let ⟨i, t, e⟩ := K.N; ⟨i, t, e, fun _ q => nomatch q⟩) fun i t tc _ => H i t tc
end
section
variable {prog : Program} {w : World} {A : Around} {E : Value → Shared → Prop} {h : Heap} {gn : Array GenState} {dr : Drawn} {os : OsState} {X : Nat} {h₀ : Heap} {L : Addr} {m : Str → Option Value} {c : LexC} {rest led : List (Addr × Obj)} {p : Nat} {st tk : Value} {pb : List Nat}
theorem li_truth3 {Q : Bool → Shared → Prop} (N : News h₀ L h led) (I : LI w c rest led p st tk pb) (hp : pb.length ≤ 1) (H : ∀ tc, Q (!pb.isEmpty) ⟨h, gn, dr, tc, os⟩) : wpAny (model prog w) A (truthy (.ref c.dq3)) Q E ⟨h, gn, dr, X, os⟩ := by
  obtain ⟨es, n, f, t1, t2, t3, t4, t5, t6, tp, pn, rfl, G, K, P⟩ := I
  refine dq_truth (s := ⟨h, gn, dr, X, os⟩) (N (c.dq3, _) (.tail _ (.tail _ (.head _)))).1 (by rw [List.length_map]; omega) ?_
  rw [List.isEmpty_map]
  exact H _
theorem li_truth1 {Q : Bool → Shared → Prop} (N : News h₀ L h led) (I : LI w c rest led p st tk pb) (H : ∀ tc, Q false ⟨h, gn, dr, tc, os⟩) : wpAny (model prog w) A (truthy (.ref c.dq1)) Q E ⟨h, gn, dr, X, os⟩ := by
  obtain ⟨es, n, f, t1, t2, t3, t4, t5, t6, tp, pn, rfl, G, K, P⟩ := I
  obtain ⟨n1, h1⟩ := P.q1
  exact dq_truth (s := ⟨h, gn, dr, X, os⟩) (N _ (.tail _ (.tail _ (.tail _ (.tail _ h1))))).1 (by decide) (H _)
theorem li_truth2 {Q : Bool → Shared → Prop} (N : News h₀ L h led) (I : LI w c rest led p st tk pb) (H : ∀ tc, Q false ⟨h, gn, dr, tc, os⟩) : wpAny (model prog w) A (truthy (.ref c.dq2)) Q E ⟨h, gn, dr, X, os⟩ := by
  obtain ⟨es, n, f, t1, t2, t3, t4, t5, t6, tp, pn, rfl, G, K, P⟩ := I
  obtain ⟨n1, h1⟩ := P.q2
  exact dq_truth (s := ⟨h, gn, dr, X, os⟩) (N _ (.tail _ (.tail _ (.tail _ (.tail _ h1))))).1 (by decide) (H _)
theorem li_appM {pl : Sem Bool} {Q : Value × List Value → Shared → Prop} (N : News h₀ L h led) (I : LI w c rest led p st tk pb) (H : Q (.builtin "collections.deque.append", [.ref c.dq3]) ⟨h, gn, dr, X, os⟩) : wpAny (model prog w) A (getMethod (.ref c.dq3) "append" pl) Q E ⟨h, gn, dr, X, os⟩ := by
  obtain ⟨es, n, f, t1, t2, t3, t4, t5, t6, tp, pn, rfl, G, K, P⟩ := I
  exact dq_meth_append (s := ⟨h, gn, dr, X, os⟩) (N (c.dq3, _) (.tail _ (.tail _ (.head _)))).1 H
theorem li_popM {pl : Sem Bool} {Q : Value × List Value → Shared → Prop} (N : News h₀ L h led) (I : LI w c rest led p st tk pb) (H : Q (.builtin "collections.deque.pop", [.ref c.dq3]) ⟨h, gn, dr, X, os⟩) : wpAny (model prog w) A (getMethod (.ref c.dq3) "pop" pl) Q E ⟨h, gn, dr, X, os⟩ := by
  obtain ⟨es, n, f, t1, t2, t3, t4, t5, t6, tp, pn, rfl, G, K, P⟩ := I
  exact dq_meth_pop (s := ⟨h, gn, dr, X, os⟩) (N (c.dq3, _) (.tail _ (.tail _ (.head _)))).1 H
theorem upd3 {p1 p2 p4 : Addr × Obj} {d : Addr} {o o' : Obj} {rest : List (Addr × Obj)} (a : p1.1 ≠ d) (b : p2.1 ≠ d) (e : p4.1 ≠ d) (hr : ∀ q ∈ rest, q.1 ≠ d) : Upd d o o' (p1 :: p2 :: (d, o) :: p4 :: rest) (p1 :: p2 :: (d, o') :: p4 :: rest) :=
  .tail a (.tail b (.head fun q hq => by rcases List.mem_cons.mp hq with rfl | hq; exact e; exact hr q hq))
theorem li_app {d : Nat} {t : Tok} {Q : Value → Shared → Prop} (F : Fr h₀ L h m) (N : News h₀ L h led) (I : LI w c rest led p st tk [])
    (H : ∀ h' led', Fr h₀ L h' m → News h₀ L h' led' → LI w c rest led' p st tk [d] → Q .none ⟨h', gn, dr, X, os⟩) : wpAny (model prog w) A (call (.builtin "collections.deque.append") [.ref c.dq3, .str (ch1 d) t]) Q E ⟨h, gn, dr, X, os⟩ := by
  obtain ⟨es, n, f, t1, t2, t3, t4, t5, t6, tp, pn, rfl, G, K, P⟩ := I
  obtain ⟨a1, a2, a3, a4, a5, a6, a7, a8, a9⟩ := P.ne
  exact dq_append (s := ⟨h, gn, dr, X, os⟩) (xs := []) F N (upd3 a4 a5 a6 fun q hq => (P.off q hq).2.1) (by decide) fun h' F' N' => H h' _ F' N' ⟨es, n, f, t1, t2, t3, t4, t5, t6, t, _, rfl, G, K, P⟩
theorem li_pop {d : Nat} {Q : Value → Shared → Prop} (F : Fr h₀ L h m) (N : News h₀ L h led) (I : LI w c rest led p st tk [d])
    (H : ∀ h' led' t, Fr h₀ L h' m → News h₀ L h' led' → LI w c rest led' p st tk [] → Q (.str (ch1 d) t) ⟨h', gn, dr, X, os⟩) : wpAny (model prog w) A (call (.builtin "collections.deque.pop") [.ref c.dq3]) Q E ⟨h, gn, dr, X, os⟩ := by
  obtain ⟨es, n, f, t1, t2, t3, t4, t5, t6, tp, pn, rfl, G, K, P⟩ := I
  obtain ⟨a1, a2, a3, a4, a5, a6, a7, a8, a9⟩ := P.ne
  exact dq_pop (s := ⟨h, gn, dr, X, os⟩) (xs := []) F N (upd3 a4 a5 a6 fun q hq => (P.off q hq).2.1) (by decide) fun h' F' N' => H h' _ _ F' N' ⟨es, n, f, t1, t2, t3, t4, t5, t6, 0, _, rfl, G, K, P⟩
theorem li_readM {pl : Sem Bool} {Q : Value × List Value → Shared → Prop} (F : Fr h₀ L h m) (X₀ : (MineH.KH w.params).In h₀) (N : News h₀ L h led) (I : LI w c rest led p st tk pb)
    (H : Q (.ref 555, [.ref c.sio]) ⟨h, gn, dr, X, os⟩) : wpAny (model prog w) A (getMethod (.ref c.sio) "read" pl) Q E ⟨h, gn, dr, X, os⟩ := by
  obtain ⟨es, n, f, t1, t2, t3, t4, t5, t6, tp, pn, rfl, G, K, P⟩ := I
  exact method_inst (s := ⟨h, gn, dr, X, os⟩) F X₀ (InstAt.of_news N (.tail _ (.head _)) (.head _)) (by kernel_rfl) (by kernel_rfl) (by kernel_rfl) (by kernel_rfl) H
theorem li_tokM {pl : Sem Bool} {Q : Value × List Value → Shared → Prop} (F : Fr h₀ L h m) (X₀ : (MineH.KH w.params).In h₀) (N : News h₀ L h led) (I : LI w c rest led p st tk pb)
    (H : Q (.ref 712, [.ref c.lx]) ⟨h, gn, dr, X, os⟩) : wpAny (model prog w) A (getMethod (.ref c.lx) "read_token" pl) Q E ⟨h, gn, dr, X, os⟩ := by
  obtain ⟨es, n, f, t1, t2, t3, t4, t5, t6, tp, pn, rfl, G, K, P⟩ := I
  exact method_inst (s := ⟨h, gn, dr, X, os⟩) F X₀ ⟨(N _ (.tail _ (.tail _ (.tail _ (.tail _ P.lx))))).1, rfl, rfl, (N (c.dlx, dictOf es n) (.tail _ (.tail _ (.tail _ (.head _))))).1⟩ (by kernel_rfl) (by kernel_rfl) (by kernel_rfl) (by rw [G.1, K.no.1]) H
theorem li_gettM {pl : Sem Bool} {Q : Value × List Value → Shared → Prop} (F : Fr h₀ L h m) (X₀ : (MineH.KH w.params).In h₀) (N : News h₀ L h led) (I : LI w c rest led p st tk pb)
    (H : Q (.ref 705, [.ref c.lx]) ⟨h, gn, dr, X, os⟩) : wpAny (model prog w) A (getMethod (.ref c.lx) "get_token" pl) Q E ⟨h, gn, dr, X, os⟩ := by
  obtain ⟨es, n, f, t1, t2, t3, t4, t5, t6, tp, pn, rfl, G, K, P⟩ := I
  exact method_inst (s := ⟨h, gn, dr, X, os⟩) F X₀ ⟨(N _ (.tail _ (.tail _ (.tail _ (.tail _ P.lx))))).1, rfl, rfl, (N (c.dlx, dictOf es n) (.tail _ (.tail _ (.tail _ (.head _))))).1⟩ (by kernel_rfl) (by kernel_rfl) (by kernel_rfl) (by rw [G.1, K.no.2]) H
/-- one sign read, or none -/
theorem li_read (w : World) (c : LexC) (rest led : List (Addr × Obj)) (p : Nat) (st tk : Value) (pb : List Nat) (t : Tok) : MyCl w 555 8 led (LI w c rest led p st tk pb ∧ c.x.length ≤ 10000 ∧ p ≤ c.x.length) [Value.ref c.sio, Value.int 1 t]
    (fun h₀ L m s Q => ∀ (nx : Str) (p' : Nat) (t : Tok) (led' : List (Addr × Obj)) (h' : Heap) (tk' : Nat), ((nx = "" ∧ c.x.cps.toList.drop p = [] ∧ p' = c.x.length) ∨ ∃ d, nx = ch1 d ∧ c.x.cps.toList.drop p = d :: c.x.cps.toList.drop p') → p' ≤ c.x.length → Fr h₀ L h' m → News h₀ L h' led' → LI w c rest led' p' st tk pb → Q (.str nx t) { s with heap := h', toks := tk' }) := by
  intro loose mean mg mb dp un gd cn cs a ccd cl outer A₀ base h₀ L m s Q E B0 F0 X0 N0 T0 kk hpre hdp hu hret
  obtain ⟨⟨es, n, f, t1, t2, t3, t4, t5, t6, tp, pn, rfl, G, K, P⟩, hx, hp⟩ := hpre
  obtain ⟨a1, a2, a3, a4, a5, a6, a7, a8, a9⟩ := P.ne
  have hr : ∀ q ∈ (c.sio, inst 609 c.dsio) :: (c.dq3, dqOf (pb.map fun d => .str (ch1 d) tp) pn) :: (c.dlx, dictOf es n) :: rest, q.1 ≠ c.dsio := by
    intro q hq
    simp only [List.mem_cons] at hq
    rcases hq with rfl | rfl | rfl | hq
    · exact a1
    · exact a2
    · exact a3
    · exact (P.off q hq).1
  by_cases q : p < c.x.length
  · exact read_c w c.sio c.dsio _ hr t t1 t2 t3 t4 t5 t6 c.x p _ _ _ _ _ _ _ _ _ _ _ _ _ _ _ _ _ _ _ _ _ B0 F0 X0 N0 T0 kk ⟨hx, q⟩ hdp hu fun t' t6' h' tk' F' N' =>
      hret _ (p + 1) t' _ h' tk' (.inr ⟨_, rfl, drop_cons c.x.cps q⟩) q F' N' ⟨es, n, f, t1, t2, t3, t4, t5, t6', tp, pn, rfl, G, K, P⟩
  · have e : p = c.x.length := Nat.le_antisymm hp (Nat.le_of_not_lt q)
    subst e
    exact read_eof w c.sio c.dsio _ hr t t1 t2 t3 t4 t5 t6 c.x _ _ _ _ _ _ _ _ _ _ _ _ _ _ _ _ _ _ _ _ _ _ B0 F0 X0 N0 T0 kk ⟨hx, rfl⟩ hdp hu fun t' h' tk' F' N' =>
      hret _ _ t' _ h' tk' (.inl ⟨rfl, List.drop_of_length_le (Nat.le_refl _), rfl⟩) (Nat.le_refl _) F' N' ⟨es, n, f, t1, t2, t3, t4, t5, t6, tp, pn, rfl, G, K, P⟩
end
end Mine
namespace Mine
section
variable {prog : Program} {w : World} {A : Around} {E : Value → Shared → Prop} {s : Shared} {x y : Str} {t u : Tok} {b : Bool} {Q : Value → Shared → Prop}
theorem eq_is (e : (x.cps.toList == y.cps.toList) = b) (h : Q (.bool b) s) : wpAny (model prog w) A (compareOp .Eq (.str x t) (.str y u)) Q E s := P.eq_str (by rw [e]; exact h)
theorem in_is (e : Txt.contains x y = b) (h : Q (.bool b) s) : wpAny (model prog w) A (compareOp .In (.str y u) (.str x t)) Q E s := SB.contains (by rw [e]; exact h)
theorem notIn_is (e : Txt.contains x y = b) (h : Q (.bool (!b)) s) : wpAny (model prog w) A (compareOp .NotIn (.str y u) (.str x t)) Q E s := SB.notContains (by rw [e]; exact h)
end
theorem truthy_ch {prog : Program} {w : World} {A : Around} {E : Value → Shared → Prop} {s : Shared} {c : Nat} {t : Tok} {Q : Bool → Shared → Prop} (h : ∀ tk, Q true { s with toks := tk }) : wpAny (model prog w) A (truthy (.str (ch1 c) t)) Q E s :=
  _root_.PySem.P.truthy_str (x := ch1 c) (by show ¬ ((1 : Nat) : Int) ≥ 2 ^ 63; decide) (h _)
theorem truthy_pos' {prog : Program} {w : World} {A : Around} {E : Value → Shared → Prop} {s : Shared} {y : Str} {t : Tok} {Q : Bool → Shared → Prop} (h1 : 1 ≤ y.length) (h2 : y.length ≤ 10001) (h : ∀ tk, Q true { s with toks := tk }) : wpAny (model prog w) A (truthy (.str y t)) Q E s := by
  refine _root_.PySem.P.truthy_str (x := y) (by omega) ?_
  have e : ((y.length : Int) != 0) = true := bne_iff_ne.mpr (by omega)
  rw [e]
  exact h _
/-- how a turn of read_token finds the lexer: rem is what is still to be read -/
def CfgOk (R0 : List Nat) (st : Nat) (acc : Str) (rem : List Nat) : Prop :=
  (st = 0 ∧ acc = Str.ofString "" ∧ rem = R0 ∧ R0 ≠ []) ∨ (st = 1 ∧ acc.cps.toList ≠ [] ∧ (∀ c ∈ acc.cps.toList, isEnd c = false) ∧ acc.cps.toList ++ rem = R0) ∨ (st = 2 ∧ acc.cps.toList ≠ [] ∧ (∀ c ∈ acc.cps.toList, isEnd c = true) ∧ acc.cps.toList ++ rem = R0)
abbrev stOf (st : Nat) : Str := match st with | 0 => Str.ofString " " | 1 => Str.ofString "a" | _ => Str.ofString "c"
/-- how it leaves it -/
def EndOk (R0 : List Nat) (x : Str) (acc : Str) (p : Nat) (stv : Value) (pb : List Nat) : Prop :=
  p ≤ x.length ∧ acc.cps.toList ≠ [] ∧ ((stv = .none ∧ pb = [] ∧ p = x.length ∧ acc.cps.toList = R0 ∧ ∃ b, ∀ c ∈ acc.cps.toList, isEnd c = b) ∨
    (∃ ts d b, stv = .str (Str.ofString " ") ts ∧ pb = [d] ∧ R0 = acc.cps.toList ++ d :: x.cps.toList.drop p ∧ (∀ c ∈ acc.cps.toList, isEnd c = b) ∧ isEnd d = !b))
theorem contains_crlf (d : Nat) : Txt.contains (Str.ofString "\r\n") (ch1 d) = isEnd d := by
  rw [contains_ch]
  have e : (Str.ofString "\r\n").cps.toList = [13, 10] := by decide +kernel
  rw [e]
  by_cases h : d = 10
  · subst h; rfl
  · by_cases h' : d = 13
    · subst h'; rfl
    · simp [isEnd, h, h']
theorem noEnd {wc : Str} {d : Nat} (h : ∀ c ∈ wc.cps.toList, isEnd c = false) (hd : isEnd d = true) : Txt.contains wc (ch1 d) = false := by
  rw [contains_ch, decide_eq_false_iff_not]
  intro q
  rw [h d q] at hd
  cases hd
theorem crT {d : Nat} (h : Txt.contains (Str.ofString "\r\n") (ch1 d) = true) : isEnd d = true := by rw [← contains_crlf]; exact h
theorem crF {d : Nat} (h : Txt.contains (Str.ofString "\r\n") (ch1 d) = false) : isEnd d = false := by rw [← contains_crlf]; exact h
theorem wcEnd {wc : Str} {d : Nat} (h : ∀ c ∈ wc.cps.toList, isEnd c = false) (hd : Txt.contains wc (ch1 d) = true) : isEnd d = false := by
  cases q : isEnd d with
  | false => rfl
  | true => rw [noEnd h q] at hd; cases hd
theorem accLen {acc : Str} {rem R0 : List Nat} (h : acc.cps.toList ++ rem = R0) (hl : R0.length ≤ 10001) : acc.length ≤ 10001 := by
  rw [← h, List.length_append, Array.length_toList] at hl
  show acc.cps.size ≤ _
  omega
theorem accPos {acc : Str} (h : acc.cps.toList ≠ []) : 1 ≤ acc.length := by
  have : 0 < acc.cps.toList.length := List.length_pos_iff.mpr h
  exact this
theorem cfg_first2 {R0 rem r : List Nat} {d : Nat} (h : rem = R0) (hd : rem = d :: r) (he : isEnd d = true) : CfgOk R0 2 (ch1 d) ([] ++ r) :=
  .inr (.inr ⟨rfl, by simp, by simpa using he, by rw [← h, hd]; rfl⟩)
theorem cfg_first1 {R0 rem r : List Nat} {d : Nat} (h : rem = R0) (hd : rem = d :: r) (he : isEnd d = false) : CfgOk R0 1 (ch1 d) ([] ++ r) :=
  .inr (.inl ⟨rfl, by simp, by simpa using he, by rw [← h, hd]; rfl⟩)
theorem cfg_more1 {R0 rem r : List Nat} {acc : Str} {d : Nat} (ha : ∀ c ∈ acc.cps.toList, isEnd c = false) (h : acc.cps.toList ++ rem = R0) (hd : rem = d :: r) (he : isEnd d = false) : CfgOk R0 1 (acc ++ ch1 d) ([] ++ r) := by
  refine .inr (.inl ⟨rfl, by simp [Str.cps_append], ?_, by rw [← h, hd]; simp [Str.cps_append]⟩)
  intro c hc
  simp only [Str.cps_append, Array.toList_append, List.mem_append, List.mem_singleton] at hc
  rcases hc with hc | rfl
  · exact ha c hc
  · exact he
theorem cfg_more2 {R0 rem r : List Nat} {acc : Str} {d : Nat} (ha : ∀ c ∈ acc.cps.toList, isEnd c = true) (h : acc.cps.toList ++ rem = R0) (hd : rem = d :: r) (he : isEnd d = true) : CfgOk R0 2 (acc ++ ch1 d) ([] ++ r) := by
  refine .inr (.inr ⟨rfl, by simp [Str.cps_append], ?_, by rw [← h, hd]; simp [Str.cps_append]⟩)
  intro c hc
  simp only [Str.cps_append, Array.toList_append, List.mem_append, List.mem_singleton] at hc
  rcases hc with hc | rfl
  · exact ha c hc
  · exact he
theorem end_eof {R0 rem : List Nat} {x acc : Str} {b : Bool} (hne : acc.cps.toList ≠ []) (ha : ∀ c ∈ acc.cps.toList, isEnd c = b) (h : acc.cps.toList ++ rem = R0) (h0 : rem = []) : EndOk R0 x acc x.length .none [] :=
  ⟨Nat.le_refl _, hne, .inl ⟨rfl, rfl, rfl, by rw [← h, h0, List.append_nil], b, ha⟩⟩
theorem end_more {R0 rem : List Nat} {x acc : Str} {p d : Nat} {b : Bool} {ts : Tok} (hp : p ≤ x.length) (hne : acc.cps.toList ≠ []) (ha : ∀ c ∈ acc.cps.toList, isEnd c = b) (h : acc.cps.toList ++ rem = R0) (hd : rem = d :: x.cps.toList.drop p) (he : isEnd d = !b) : EndOk R0 x acc p (.str (Str.ofString " ") ts) [d] :=
  ⟨hp, hne, .inr ⟨ts, d, b, rfl, rfl, by rw [← h, hd], ha, he⟩⟩
/-- self.punctuation_chars, a property -/
theorem li_punct (w : World) (c : LexC) (rest led : List (Addr × Obj)) (p : Nat) (st tk : Value) (pb : List Nat) :
  ∀ (loose : List Str) (mean : ExcName → Option Value) (mg mb : Str → Option Value) (dp un : Nat) (gd : Option (List Code)) (cn : Str) (cs : Scope) (a : Addr) (ccd : Value) (cl : List (Str × Addr)) (outer : List Env) (A₀ : Around) (base h₀ : Heap) (L : Addr) (m : Str → Option Value) (s : Shared) (Q E : Value → Shared → Prop),
    Below A₀ base outer h₀ → Fr h₀ L s.heap m → (MineH.KH w.params).In h₀ → News h₀ L s.heap led → Top MineH.vw loose mean mg mb h₀ → cs.kind = .function →
    LI w c rest led p st tk pb → dp + 4 < recursionLimit → un + 64 < cLine → (∀ (t : Tok) (h' : Heap) (tk' : Nat), Fr h₀ L h' m → News h₀ L h' led → Q (.str "\r\n" t) { s with heap := h', toks := tk' }) →
      wpAny (model PySem.Challenge.rw_oc0215_01.row.prog w) (ktrTop dp un gd cn cs L a ccd cl outer) (getAttr (.ref c.lx) "punctuation_chars" true) Q E s := by
  k_with_none
  (k_with "k_room" => first | assumption | ktr_room)
  (k_with "k_mem" => assumption)
  (k_with "cell_enter" => (refine' code_def ?k1 ?k2 ?k3 ?k4 ?k5 ?kA ?kF ?kK ?k6 ?k7 ?k8 ?k9 ?kB ?_ ?c2 ?c3 ?c4 ?c5; (case kA => exact rfl); (case kF => exact rfl); (case kK => assumption); (case k1 => k_asm); (case k2 => k_asm); (case k3 => k_asm); (case k4 => k_asm); (case k5 => k_asm); (case k6 => k_is); (case k7 => k_is); (case k8 => k_room); (case k9 => first | exact BindsTo.of_eq rfl | exact binds_K (by k_in) rfl (by k_is) rfl rfl rfl | exact kp_binds (by k_in) (fun _ => by kernel_rfl)); (case c5 => decide); (case kB => exact locs rfl); (case c2 => exact rfl); (case c3 => exact rfl); (case c4 => exact rfl); k_whole; intro g L' hh FG F N B X T; (try dsimp only); (try k_lift B); (try k_fold)))
  (k_with "execs cons" => (k_here; refine gen_tk ?_; intro tk))
  (k_with "eval Constant str" => (k_here; refine const_str ?_; intro t tk))
  (k_with "eval Constant int" => (k_here; refine const_int ?_; intro t tk))
  (k_with "eval Attribute Name" => (k_here; (with_reducible show wpAny _ _ (eval (Expr.Attribute (Expr.Name (PySem.Str.ofString "self") _) (PySem.Str.ofString "instream") _) _) _ _ _); k_dflt (refine' at_instream ?F ?X ?N ?I ?s ?_ ?a ?b; (case F => k_asm); (case X => k_asm); (case I => k_asm); (case N => first | k_asm | exact newsTl (by k_asm)); (case s => exact rfl); (case a => exact rfl); (case b => exact rfl)); intro tc))
  (k_with "eval Attribute Name" => (k_here; (with_reducible show wpAny _ _ (eval (Expr.Attribute (Expr.Name (PySem.Str.ofString "self") _) (PySem.Str.ofString "posix") _) _) _ _ _); k_dflt (refine' at_posix ?F ?X ?N ?I ?s ?_ ?a ?b; (case F => k_asm); (case X => k_asm); (case I => k_asm); (case N => first | k_asm | exact newsTl (by k_asm)); (case s => exact rfl); (case a => exact rfl); (case b => exact rfl)); intro tc))
  (k_with "eval Attribute Name" => (k_here; (with_reducible show wpAny _ _ (eval (Expr.Attribute (Expr.Name (PySem.Str.ofString "self") _) (PySem.Str.ofString "whitespace_split") _) _) _ _ _); k_dflt (refine' at_whitespace_split ?F ?X ?N ?I ?s ?_ ?a ?b; (case F => k_asm); (case X => k_asm); (case I => k_asm); (case N => first | k_asm | exact newsTl (by k_asm)); (case s => exact rfl); (case a => exact rfl); (case b => exact rfl)); intro tc))
  (k_with "eval Attribute Name" => (k_here; (with_reducible show wpAny _ _ (eval (Expr.Attribute (Expr.Name (PySem.Str.ofString "self") _) (PySem.Str.ofString "pushback") _) _) _ _ _); k_dflt (refine' at_pushback ?F ?X ?N ?I ?s ?_ ?a ?b; (case F => k_asm); (case X => k_asm); (case I => k_asm); (case N => first | k_asm | exact newsTl (by k_asm)); (case s => exact rfl); (case a => exact rfl); (case b => exact rfl)); intro tc))
  (k_with "eval Attribute Name" => (k_here; (with_reducible show wpAny _ _ (eval (Expr.Attribute (Expr.Name (PySem.Str.ofString "self") _) (PySem.Str.ofString "filestack") _) _) _ _ _); k_dflt (refine' at_filestack ?F ?X ?N ?I ?s ?_ ?a ?b; (case F => k_asm); (case X => k_asm); (case I => k_asm); (case N => first | k_asm | exact newsTl (by k_asm)); (case s => exact rfl); (case a => exact rfl); (case b => exact rfl)); intro tc))
  (k_with "eval Attribute Name" => (k_here; (with_reducible show wpAny _ _ (eval (Expr.Attribute (Expr.Name (PySem.Str.ofString "self") _) (PySem.Str.ofString "_pushback_chars") _) _) _ _ _); k_dflt (refine' at_pbc ?F ?X ?N ?I ?s ?_ ?a ?b; (case F => k_asm); (case X => k_asm); (case I => k_asm); (case N => first | k_asm | exact newsTl (by k_asm)); (case s => exact rfl); (case a => exact rfl); (case b => exact rfl)); intro tc))
  (k_with "eval Attribute Name" => (k_here; (with_reducible show wpAny _ _ (eval (Expr.Attribute (Expr.Name (PySem.Str.ofString "self") _) (PySem.Str.ofString "source") _) _) _ _ _); k_dflt (refine' at_source ?F ?X ?N ?I ?s ?_ ?a ?b; (case F => k_asm); (case X => k_asm); (case I => k_asm); (case N => first | k_asm | exact newsTl (by k_asm)); (case s => exact rfl); (case a => exact rfl); (case b => exact rfl)); intro tc))
  (k_with "eval Attribute Name" => (k_here; (with_reducible show wpAny _ _ (eval (Expr.Attribute (Expr.Name (PySem.Str.ofString "self") _) (PySem.Str.ofString "eof") _) _) _ _ _); k_dflt (refine' at_eof ?F ?X ?N ?I ?s ?_ ?a ?b; (case F => k_asm); (case X => k_asm); (case I => k_asm); (case N => first | k_asm | exact newsTl (by k_asm)); (case s => exact rfl); (case a => exact rfl); (case b => exact rfl)); intro t tc))
  (k_with "eval Attribute Name" => (k_here; (with_reducible show wpAny _ _ (eval (Expr.Attribute (Expr.Name (PySem.Str.ofString "self") _) (PySem.Str.ofString "commenters") _) _) _ _ _); k_dflt (refine' at_commenters ?F ?X ?N ?I ?s ?_ ?a ?b; (case F => k_asm); (case X => k_asm); (case I => k_asm); (case N => first | k_asm | exact newsTl (by k_asm)); (case s => exact rfl); (case a => exact rfl); (case b => exact rfl)); intro t tc))
  (k_with "eval Attribute Name" => (k_here; (with_reducible show wpAny _ _ (eval (Expr.Attribute (Expr.Name (PySem.Str.ofString "self") _) (PySem.Str.ofString "wordchars") _) _) _ _ _); k_dflt (refine' at_wordchars ?F ?X ?N ?I ?s ?_ ?a ?b; (case F => k_asm); (case X => k_asm); (case I => k_asm); (case N => first | k_asm | exact newsTl (by k_asm)); (case s => exact rfl); (case a => exact rfl); (case b => exact rfl)); intro t tc))
  (k_with "eval Attribute Name" => (k_here; (with_reducible show wpAny _ _ (eval (Expr.Attribute (Expr.Name (PySem.Str.ofString "self") _) (PySem.Str.ofString "whitespace") _) _) _ _ _); k_dflt (refine' at_whitespace ?F ?X ?N ?I ?s ?_ ?a ?b; (case F => k_asm); (case X => k_asm); (case I => k_asm); (case N => first | k_asm | exact newsTl (by k_asm)); (case s => exact rfl); (case a => exact rfl); (case b => exact rfl)); intro t tc))
  (k_with "eval Attribute Name" => (k_here; (with_reducible show wpAny _ _ (eval (Expr.Attribute (Expr.Name (PySem.Str.ofString "self") _) (PySem.Str.ofString "quotes") _) _) _ _ _); k_dflt (refine' at_quotes ?F ?X ?N ?I ?s ?_ ?a ?b; (case F => k_asm); (case X => k_asm); (case I => k_asm); (case N => first | k_asm | exact newsTl (by k_asm)); (case s => exact rfl); (case a => exact rfl); (case b => exact rfl)); intro t tc))
  (k_with "eval Attribute Name" => (k_here; (with_reducible show wpAny _ _ (eval (Expr.Attribute (Expr.Name (PySem.Str.ofString "self") _) (PySem.Str.ofString "escape") _) _) _ _ _); k_dflt (refine' at_escape ?F ?X ?N ?I ?s ?_ ?a ?b; (case F => k_asm); (case X => k_asm); (case I => k_asm); (case N => first | k_asm | exact newsTl (by k_asm)); (case s => exact rfl); (case a => exact rfl); (case b => exact rfl)); intro t tc))
  (k_with "eval Attribute Name" => (k_here; (with_reducible show wpAny _ _ (eval (Expr.Attribute (Expr.Name (PySem.Str.ofString "self") _) (PySem.Str.ofString "escapedquotes") _) _) _ _ _); k_dflt (refine' at_escapedquotes ?F ?X ?N ?I ?s ?_ ?a ?b; (case F => k_asm); (case X => k_asm); (case I => k_asm); (case N => first | k_asm | exact newsTl (by k_asm)); (case s => exact rfl); (case a => exact rfl); (case b => exact rfl)); intro t tc))
  (k_with "eval Attribute Name" => (k_here; (with_reducible show wpAny _ _ (eval (Expr.Attribute (Expr.Name (PySem.Str.ofString "self") _) (PySem.Str.ofString "_punctuation_chars") _) _) _ _ _); k_dflt (refine' at_punctuation_chars ?F ?X ?N ?I ?s ?_ ?a ?b; (case F => k_asm); (case X => k_asm); (case I => k_asm); (case N => first | k_asm | exact newsTl (by k_asm)); (case s => exact rfl); (case a => exact rfl); (case b => exact rfl)); intro t tc))
  (k_with "eval Attribute Name" => (k_here; (with_reducible show wpAny _ _ (eval (Expr.Attribute (Expr.Name (PySem.Str.ofString "self") _) (PySem.Str.ofString "state") _) _) _ _ _); k_dflt (refine' at_state ?F ?X ?N ?I ?s ?hh ?_ ?a ?b; (case F => k_asm); (case X => k_asm); (case I => k_asm); (case N => first | k_asm | exact newsTl (by k_asm)); (case s => exact rfl); (case hh => exact rfl); (case a => exact rfl); (case b => exact rfl)); intro tc))
  (k_with "eval Attribute Name" => (k_here; (with_reducible show wpAny _ _ (eval (Expr.Attribute (Expr.Name (PySem.Str.ofString "self") _) (PySem.Str.ofString "token") _) _) _ _ _); k_dflt (refine' at_token ?F ?X ?N ?I ?s ?hh ?_ ?a ?b; (case F => k_asm); (case X => k_asm); (case I => k_asm); (case N => first | k_asm | exact newsTl (by k_asm)); (case s => exact rfl); (case hh => exact rfl); (case a => exact rfl); (case b => exact rfl)); intro tc))
  (k_with "eval Attribute Name" => (k_here; (with_reducible show wpAny _ _ (eval (Expr.Attribute (Expr.Name (PySem.Str.ofString "self") _) (PySem.Str.ofString "debug") _) _) _ _ _); k_dflt (refine' at_debug ?F ?X ?N ?I ?s ?_ ?a ?b; (case F => k_asm); (case X => k_asm); (case I => k_asm); (case N => first | k_asm | exact newsTl (by k_asm)); (case s => exact rfl); (case a => exact rfl); (case b => exact rfl)); intro t tc))
  (k_with "getAttr ref" => (k_here; (with_reducible show wpAny _ _ (getAttr _ (PySem.Str.ofString "state") _) _ _ _); k_dflt (refine' li_state ?F ?X ?N ?I ?hh ?_; (case F => k_asm); (case X => k_asm); (case I => k_asm); (case N => first | k_asm | exact newsTl (by k_asm)); (case hh => exact rfl)); intro tc))
  (k_with "getAttr ref" => (k_here; (with_reducible show wpAny _ _ (getAttr _ (PySem.Str.ofString "token") _) _ _ _); k_dflt (refine' li_token ?F ?X ?N ?I ?hh ?_; (case F => k_asm); (case X => k_asm); (case I => k_asm); (case N => first | k_asm | exact newsTl (by k_asm)); (case hh => exact rfl)); intro tc))
  (k_with "getAttr ref" => (k_here; (with_reducible show wpAny _ _ (getAttr _ (PySem.Str.ofString "lineno") _) _ _ _); k_dflt (refine' li_lineno ?F ?X ?N ?I ?_; (case F => k_asm); (case X => k_asm); (case I => k_asm); (case N => first | k_asm | exact newsTl (by k_asm));); intro i t tc))
  (k_with "setAttr ref" => (k_here; (with_reducible show wpAny _ _ (setAttr _ (PySem.Str.ofString "state") _) _ _ _); k_dflt (refine' li_setSt ?F ?X ?N ?I ?_; (case F => k_asm); (case X => k_asm); (case I => k_asm); (case N => first | k_asm | exact newsTl (by k_asm))); intro h7 led7 tc F7 N7 I7))
  (k_with "setAttr ref" => (k_here; (with_reducible show wpAny _ _ (setAttr _ (PySem.Str.ofString "token") _) _ _ _); k_dflt (refine' li_setTk ?F ?X ?N ?I ?_; (case F => k_asm); (case X => k_asm); (case I => k_asm); (case N => first | k_asm | exact newsTl (by k_asm))); intro h7 led7 tc F7 N7 I7))
  (k_with "setAttr ref" => (k_here; (with_reducible show wpAny _ _ (setAttr _ (PySem.Str.ofString "lineno") _) _ _ _); k_dflt (refine' li_setLn ?F ?X ?N ?I ?_; (case F => k_asm); (case X => k_asm); (case I => k_asm); (case N => first | k_asm | exact newsTl (by k_asm))); intro h7 led7 tc F7 N7 I7))
  (k_with "truthy ref" => (k_here; first
  | (refine' li_truth3 ?N ?I ?l ?_; (case I => k_asm); (case N => first | k_asm | exact newsTl (by k_asm)); (case l => first | assumption | decide); intro tc; (try dsimp only [List.isEmpty_nil, List.isEmpty_cons, Bool.not_true, Bool.not_false]))
  | (refine' li_truth1 ?N ?I ?_; (case I => k_asm); (case N => first | k_asm | exact newsTl (by k_asm)); intro tc)
  | (refine' li_truth2 ?N ?I ?_; (case I => k_asm); (case N => first | k_asm | exact newsTl (by k_asm)); intro tc)))
  (k_with "getMethod ref" => (k_here; (with_reducible show wpAny _ _ (getMethod (Value.ref _) (PySem.Str.ofString "append") _) _ _ _); refine' li_appM ?N ?I ?_; (case I => k_asm); (case N => first | k_asm | exact newsTl (by k_asm))))
  (k_with "getMethod ref" => (k_here; (with_reducible show wpAny _ _ (getMethod (Value.ref _) (PySem.Str.ofString "pop") _) _ _ _); refine' li_popM ?N ?I ?_; (case I => k_asm); (case N => first | k_asm | exact newsTl (by k_asm))))
  (k_with "getMethod ref" => (k_here; (with_reducible show wpAny _ _ (getMethod (Value.ref _) (PySem.Str.ofString "read") _) _ _ _); refine' li_readM ?F ?X ?N ?I ?_; (case F => k_asm); (case X => k_asm); (case I => k_asm); (case N => first | k_asm | exact newsTl (by k_asm))))
  (k_with "getMethod ref" => (k_here; (with_reducible show wpAny _ _ (getMethod (Value.ref _) (PySem.Str.ofString "read_token") _) _ _ _); refine' li_tokM ?F ?X ?N ?I ?_; (case F => k_asm); (case X => k_asm); (case I => k_asm); (case N => first | k_asm | exact newsTl (by k_asm))))
  (k_with "getMethod ref" => (k_here; (with_reducible show wpAny _ _ (getMethod (Value.ref _) (PySem.Str.ofString "get_token") _) _ _ _); refine' li_gettM ?F ?X ?N ?I ?_; (case F => k_asm); (case X => k_asm); (case I => k_asm); (case N => first | k_asm | exact newsTl (by k_asm))))
  (k_with "call builtin:collections.deque.append" => (k_here; refine' li_app ?F ?N ?I ?_; (case F => k_asm); (case I => k_asm); (case N => first | k_asm | exact newsTl (by k_asm)); intro h7 led7 F7 N7 I7))
  (k_with "call builtin:collections.deque.pop" => (k_here; refine' li_pop ?F ?N ?I ?_; (case F => k_asm); (case I => k_asm); (case N => first | k_asm | exact newsTl (by k_asm)); intro h7 led7 t7 F7 N7 I7))
  (k_with "call ref" => (k_here; (with_reducible show wpAny _ _ (PySem.call (Value.ref 555) [Value.ref _, Value.int _ _]) _ _ _); (k_dflt (refine' li_read _ _ _ _ _ _ _ _ _ _ _ _ _ _ _ _ _ _ _ _ _ _ _ _ _ _ _ _ _ _ ?k1 ?k2 ?k3 ?k4 ?k5 ?kK ?kp ?kd ?ku ?_; (case k1 => k_asm); (case k2 => k_asm); (case k3 => k_asm); (case k5 => k_asm); (case kK => exact rfl); (case kp => exact ⟨by assumption, by assumption, by assumption⟩); (case k4 => first | k_asm | exact newsTl (by k_asm)); (case kd => k_room); (case ku => k_room); intro nx7 p7 t7 led7 h7 tk7 hN7 hp7 F7 N7 I7; (try dsimp only); (try k_fold)))))
  (k_with "exec While" => (k_here; refine hold_of ?_))
  (k_with "truthy str" => (k_here; refine' truthy_pos' ?a ?b ?_; (case a => with_reducible assumption); (case b => with_reducible assumption); intro tq))
  (k_with "truthy str" => (k_here; (with_reducible show wpAny _ _ (truthy (Value.str (ch1 _) _)) _ _ _); refine truthy_ch ?_; intro tq))
  (k_with "compareOp Eq str str" => (k_here; refine' eq_is ?e ?_; (case e => first | with_reducible assumption | exact (show _ = true by decide +kernel) | exact (show _ = false by decide +kernel))))
  (k_with "compareOp In str str" => (k_here; first
  | (refine' in_is ?e ?_; (case e => first | with_reducible assumption | exact (show _ = true by decide +kernel) | exact (show _ = false by decide +kernel)))
  | refine hold_of ?_))
  (k_with "exec If" => (k_here; refine wpAny_If ?_))
  (k_with "compareOp NotIn str str" => (k_here; first
  | (refine' notIn_is ?e ?_; (case e => first | with_reducible assumption | exact (show _ = true by decide +kernel) | exact (show _ = false by decide +kernel)); (try dsimp only [Bool.not_true, Bool.not_false]))
  | refine hold_of ?_))
  k_fill; intros
  rename_i loose mean mg mb dp un gd cn cs a ccd cl outer A₀ base h₀ L m s Q E B0 F0 X0 N0 T0 kk I hdp hu hret
  have r1 : dp + 1 < recursionLimit := rm hdp (by decide)
  have I' := I
  obtain ⟨es, n, f, t1, t2, t3, t4, t5, t6, tp, pn, rfl, G, K, P⟩ := I
  have hlx := P.lx
  k_dflt (refine' get_prop ?k1 ?k2 ?k3 ?k4 ?k5 ?k6 ?k7 ?k8 ?k9 ?_; (case k1 => k_asm); (case k2 => k_asm); (case k3 => k_inst); (case k4 => k_is); (case k5 => k_is); (case k6 => k_is); (case k7 => k_is); (case k8 => k_is); (case k9 => k_is); k_whole; k_dflt cell_enter)
  k_steps
  all_goals exact hret _ _ _ (by k_asm) (by k_asm)
theorem at_punct {w : World} {c : LexC} {rest led : List (Addr × Obj)} {p : Nat} {st tk : Value} {pb : List Nat} {loose : List Str} {mean : ExcName → Option Value} {mg mb : Str → Option Value} {dp un : Nat} {gd : Option (List Code)} {cn : Str} {cs : Scope} {a : Addr} {ccd : Value} {cl : List (Str × Addr)} {outer : List Env} {A₀ : Around} {base h₀ : Heap} {L : Addr} {m : Str → Option Value} {s : Shared} {Q E : Value → Shared → Prop} {xp pos : Pos}
    (B : Below A₀ base outer h₀) (F : Fr h₀ L s.heap m) (X : (MineH.KH w.params).In h₀) (N : News h₀ L s.heap led) (T : Top MineH.vw loose mean mg mb h₀) (kk : cs.kind = .function) (I : LI w c rest led p st tk pb) (hm : m "self" = some (.ref c.lx)) (hd : dp + 4 < recursionLimit) (hu : un + 64 < cLine)
    (H : ∀ (t : Tok) (h' : Heap) (tk' : Nat), Fr h₀ L h' m → News h₀ L h' led → Q (.str "\r\n" t) { s with heap := h', toks := tk' }) (hx : (envX cn cs L a ccd cl).kindOf "self" = some .local) :
    wpAny (model PySem.Challenge.rw_oc0215_01.row.prog w) (ktrTop dp un gd cn cs L a ccd cl outer) (eval (.Attribute (.Name "self" xp) "punctuation_chars" pos) (envX cn cs L a ccd cl)) Q E s :=
  at_self (X := s.toks) F hm hx kk (li_punct w c rest led p st tk pb _ _ _ _ _ _ _ _ _ _ _ _ _ _ _ _ _ _ _ _ _ B F X N T kk I hd hu H)
/-- behind read_token's loop -/
def LoopP (w : World) (c : LexC) (rest : List (Addr × Obj)) (R0 : List Nat) (g : Heap) (L' : Addr) (s s' : Shared) : Prop :=
  ∃ (acc : Str) (p' : Nat) (stv : Value) (pb' : List Nat) (tt' : Tok) (u : Str → Option Value) (h' : Heap) (led' : List (Addr × Obj)) (tk' : Nat), s' = { s with heap := h', toks := tk' } ∧ EndOk R0 c.x acc p' stv pb' ∧
    Fr g L' h' (kstB u [("self", .ref c.lx), ("quoted", .bool false)]) ∧ News g L' h' led' ∧ LI w c rest led' p' stv (.str acc tt') pb'
/-- between its turns -/
def TurnJ (w : World) (c : LexC) (rest : List (Addr × Obj)) (R0 : List Nat) (n : Nat) (m' : Str → Option Value) (news' : List (Addr × Obj)) : Prop :=
  ∃ (st p1 : Nat) (acc : Str) (pb1 : List Nat) (ts1 tt1 te1 : Tok), p1 ≤ c.x.length ∧ pb1.length ≤ 1 ∧ CfgOk R0 st acc (pb1 ++ c.x.cps.toList.drop p1) ∧ n = (pb1 ++ c.x.cps.toList.drop p1).length ∧ m' "self" = some (.ref c.lx) ∧ m' "quoted" = some (.bool false) ∧ m' "escapedstate" = some (.str " " te1) ∧
    LI w c rest news' p1 (.str (stOf st) ts1) (.str acc tt1) pb1
/-- behind a turn's reading -/
def FetchP (w : World) (c : LexC) (rest : List (Addr × Obj)) (g : Heap) (L' : Addr) (s : Shared) (p1 : Nat) (pb1 : List Nat) (st tk : Value) (te1 : Tok) (s' : Shared) : Prop :=
  ∃ (nx : Str) (p2 : Nat) (tnx : Tok) (u : Str → Option Value) (h' : Heap) (led' : List (Addr × Obj)) (tk' : Nat), s' = { s with heap := h', toks := tk' } ∧ Fr g L' h' (kstB u [("self", .ref c.lx), ("quoted", .bool false), ("escapedstate", .str " " te1), ("nextchar", .str nx tnx)]) ∧ News g L' h' led' ∧
    LI w c rest led' p2 st tk [] ∧ p2 ≤ c.x.length ∧ ((nx = "" ∧ pb1 ++ c.x.cps.toList.drop p1 = [] ∧ p2 = c.x.length) ∨ ∃ d, nx = ch1 d ∧ pb1 ++ c.x.cps.toList.drop p1 = d :: c.x.cps.toList.drop p2)
/-- behind the count of lines -/
def LineP (w : World) (c : LexC) (rest : List (Addr × Obj)) (g : Heap) (L' : Addr) (s : Shared) (p2 : Nat) (st tk : Value) (te1 : Tok) (nx : Str) (tnx : Tok) (s' : Shared) : Prop :=
  ∃ (u : Str → Option Value) (h' : Heap) (led' : List (Addr × Obj)) (tk' : Nat), s' = { s with heap := h', toks := tk' } ∧ Fr g L' h' (kstB u [("self", .ref c.lx), ("quoted", .bool false), ("escapedstate", .str " " te1), ("nextchar", .str nx tnx)]) ∧ News g L' h' led' ∧ LI w c rest led' p2 st tk []
theorem rt_c (w : World) (c : LexC) (rest led : List (Addr × Obj)) (p : Nat) (pb : List Nat) (ts tt : Tok) :
    MyCl w 712 12 led (LI w c rest led p (.str " " ts) (.str "" tt) pb ∧ c.x.length ≤ 10000 ∧ p ≤ c.x.length ∧ pb.length ≤ 1 ∧ pb ++ c.x.cps.toList.drop p ≠ [] ∧ ∀ d ∈ c.wc.cps.toList, isEnd d = false) [Value.ref c.lx]
      (fun h₀ L m s Q => ∀ (acc : Str) (p' : Nat) (stv : Value) (pb' : List Nat) (tt' t' : Tok) (led' : List (Addr × Obj)) (h' : Heap) (tk' : Nat), EndOk (pb ++ c.x.cps.toList.drop p) c.x acc p' stv pb' → Fr h₀ L h' m → News h₀ L h' led' → LI w c rest led' p' stv (.str "" tt') pb' → Q (.str acc t') { s with heap := h', toks := tk' }) := by
  k_with_none
  (k_with "k_room" => first | assumption | ktr_room)
  (k_with "k_mem" => assumption)
  (k_with "cell_enter" => (refine' code_def ?k1 ?k2 ?k3 ?k4 ?k5 ?kA ?kF ?kK ?k6 ?k7 ?k8 ?k9 ?kB ?_ ?c2 ?c3 ?c4 ?c5; (case kA => exact rfl); (case kF => exact rfl); (case kK => assumption); (case k1 => k_asm); (case k2 => k_asm); (case k3 => k_asm); (case k4 => k_asm); (case k5 => k_asm); (case k6 => k_is); (case k7 => k_is); (case k8 => k_room); (case k9 => first | exact BindsTo.of_eq rfl | exact binds_K (by k_in) rfl (by k_is) rfl rfl rfl | exact kp_binds (by k_in) (fun _ => by kernel_rfl)); (case c5 => decide); (case kB => exact locs rfl); (case c2 => exact rfl); (case c3 => exact rfl); (case c4 => exact rfl); k_whole; intro g L' hh FG F N B X T; (try dsimp only); (try k_lift B); (try k_fold)))
  (k_with "execs cons" => (k_here; k_fold))
  (k_with "execs cons" => (k_here; refine gen_tk ?_; intro tk))
  (k_with "eval Constant str" => (k_here; refine const_str ?_; intro t tk))
  (k_with "eval Constant int" => (k_here; refine const_int ?_; intro t tk))
  (k_with "eval Attribute Name" => (k_here; (with_reducible show wpAny _ _ (eval (Expr.Attribute (Expr.Name (PySem.Str.ofString "self") _) (PySem.Str.ofString "instream") _) _) _ _ _); k_dflt (refine' at_instream ?F ?X ?N ?I ?s ?_ ?a ?b; (case F => k_asm); (case X => k_asm); (case I => k_asm); (case N => first | k_asm | exact newsTl (by k_asm)); (case s => exact rfl); (case a => exact rfl); (case b => exact rfl)); intro tc))
  (k_with "eval Attribute Name" => (k_here; (with_reducible show wpAny _ _ (eval (Expr.Attribute (Expr.Name (PySem.Str.ofString "self") _) (PySem.Str.ofString "posix") _) _) _ _ _); k_dflt (refine' at_posix ?F ?X ?N ?I ?s ?_ ?a ?b; (case F => k_asm); (case X => k_asm); (case I => k_asm); (case N => first | k_asm | exact newsTl (by k_asm)); (case s => exact rfl); (case a => exact rfl); (case b => exact rfl)); intro tc))
  (k_with "eval Attribute Name" => (k_here; (with_reducible show wpAny _ _ (eval (Expr.Attribute (Expr.Name (PySem.Str.ofString "self") _) (PySem.Str.ofString "whitespace_split") _) _) _ _ _); k_dflt (refine' at_whitespace_split ?F ?X ?N ?I ?s ?_ ?a ?b; (case F => k_asm); (case X => k_asm); (case I => k_asm); (case N => first | k_asm | exact newsTl (by k_asm)); (case s => exact rfl); (case a => exact rfl); (case b => exact rfl)); intro tc))
  (k_with "eval Attribute Name" => (k_here; (with_reducible show wpAny _ _ (eval (Expr.Attribute (Expr.Name (PySem.Str.ofString "self") _) (PySem.Str.ofString "pushback") _) _) _ _ _); k_dflt (refine' at_pushback ?F ?X ?N ?I ?s ?_ ?a ?b; (case F => k_asm); (case X => k_asm); (case I => k_asm); (case N => first | k_asm | exact newsTl (by k_asm)); (case s => exact rfl); (case a => exact rfl); (case b => exact rfl)); intro tc))
  (k_with "eval Attribute Name" => (k_here; (with_reducible show wpAny _ _ (eval (Expr.Attribute (Expr.Name (PySem.Str.ofString "self") _) (PySem.Str.ofString "filestack") _) _) _ _ _); k_dflt (refine' at_filestack ?F ?X ?N ?I ?s ?_ ?a ?b; (case F => k_asm); (case X => k_asm); (case I => k_asm); (case N => first | k_asm | exact newsTl (by k_asm)); (case s => exact rfl); (case a => exact rfl); (case b => exact rfl)); intro tc))
  (k_with "eval Attribute Name" => (k_here; (with_reducible show wpAny _ _ (eval (Expr.Attribute (Expr.Name (PySem.Str.ofString "self") _) (PySem.Str.ofString "_pushback_chars") _) _) _ _ _); k_dflt (refine' at_pbc ?F ?X ?N ?I ?s ?_ ?a ?b; (case F => k_asm); (case X => k_asm); (case I => k_asm); (case N => first | k_asm | exact newsTl (by k_asm)); (case s => exact rfl); (case a => exact rfl); (case b => exact rfl)); intro tc))
  (k_with "eval Attribute Name" => (k_here; (with_reducible show wpAny _ _ (eval (Expr.Attribute (Expr.Name (PySem.Str.ofString "self") _) (PySem.Str.ofString "source") _) _) _ _ _); k_dflt (refine' at_source ?F ?X ?N ?I ?s ?_ ?a ?b; (case F => k_asm); (case X => k_asm); (case I => k_asm); (case N => first | k_asm | exact newsTl (by k_asm)); (case s => exact rfl); (case a => exact rfl); (case b => exact rfl)); intro tc))
  (k_with "eval Attribute Name" => (k_here; (with_reducible show wpAny _ _ (eval (Expr.Attribute (Expr.Name (PySem.Str.ofString "self") _) (PySem.Str.ofString "eof") _) _) _ _ _); k_dflt (refine' at_eof ?F ?X ?N ?I ?s ?_ ?a ?b; (case F => k_asm); (case X => k_asm); (case I => k_asm); (case N => first | k_asm | exact newsTl (by k_asm)); (case s => exact rfl); (case a => exact rfl); (case b => exact rfl)); intro t tc))
  (k_with "eval Attribute Name" => (k_here; (with_reducible show wpAny _ _ (eval (Expr.Attribute (Expr.Name (PySem.Str.ofString "self") _) (PySem.Str.ofString "commenters") _) _) _ _ _); k_dflt (refine' at_commenters ?F ?X ?N ?I ?s ?_ ?a ?b; (case F => k_asm); (case X => k_asm); (case I => k_asm); (case N => first | k_asm | exact newsTl (by k_asm)); (case s => exact rfl); (case a => exact rfl); (case b => exact rfl)); intro t tc))
  (k_with "eval Attribute Name" => (k_here; (with_reducible show wpAny _ _ (eval (Expr.Attribute (Expr.Name (PySem.Str.ofString "self") _) (PySem.Str.ofString "wordchars") _) _) _ _ _); k_dflt (refine' at_wordchars ?F ?X ?N ?I ?s ?_ ?a ?b; (case F => k_asm); (case X => k_asm); (case I => k_asm); (case N => first | k_asm | exact newsTl (by k_asm)); (case s => exact rfl); (case a => exact rfl); (case b => exact rfl)); intro t tc))
  (k_with "eval Attribute Name" => (k_here; (with_reducible show wpAny _ _ (eval (Expr.Attribute (Expr.Name (PySem.Str.ofString "self") _) (PySem.Str.ofString "whitespace") _) _) _ _ _); k_dflt (refine' at_whitespace ?F ?X ?N ?I ?s ?_ ?a ?b; (case F => k_asm); (case X => k_asm); (case I => k_asm); (case N => first | k_asm | exact newsTl (by k_asm)); (case s => exact rfl); (case a => exact rfl); (case b => exact rfl)); intro t tc))
  (k_with "eval Attribute Name" => (k_here; (with_reducible show wpAny _ _ (eval (Expr.Attribute (Expr.Name (PySem.Str.ofString "self") _) (PySem.Str.ofString "quotes") _) _) _ _ _); k_dflt (refine' at_quotes ?F ?X ?N ?I ?s ?_ ?a ?b; (case F => k_asm); (case X => k_asm); (case I => k_asm); (case N => first | k_asm | exact newsTl (by k_asm)); (case s => exact rfl); (case a => exact rfl); (case b => exact rfl)); intro t tc))
  (k_with "eval Attribute Name" => (k_here; (with_reducible show wpAny _ _ (eval (Expr.Attribute (Expr.Name (PySem.Str.ofString "self") _) (PySem.Str.ofString "escape") _) _) _ _ _); k_dflt (refine' at_escape ?F ?X ?N ?I ?s ?_ ?a ?b; (case F => k_asm); (case X => k_asm); (case I => k_asm); (case N => first | k_asm | exact newsTl (by k_asm)); (case s => exact rfl); (case a => exact rfl); (case b => exact rfl)); intro t tc))
  (k_with "eval Attribute Name" => (k_here; (with_reducible show wpAny _ _ (eval (Expr.Attribute (Expr.Name (PySem.Str.ofString "self") _) (PySem.Str.ofString "escapedquotes") _) _) _ _ _); k_dflt (refine' at_escapedquotes ?F ?X ?N ?I ?s ?_ ?a ?b; (case F => k_asm); (case X => k_asm); (case I => k_asm); (case N => first | k_asm | exact newsTl (by k_asm)); (case s => exact rfl); (case a => exact rfl); (case b => exact rfl)); intro t tc))
  (k_with "eval Attribute Name" => (k_here; (with_reducible show wpAny _ _ (eval (Expr.Attribute (Expr.Name (PySem.Str.ofString "self") _) (PySem.Str.ofString "_punctuation_chars") _) _) _ _ _); k_dflt (refine' at_punctuation_chars ?F ?X ?N ?I ?s ?_ ?a ?b; (case F => k_asm); (case X => k_asm); (case I => k_asm); (case N => first | k_asm | exact newsTl (by k_asm)); (case s => exact rfl); (case a => exact rfl); (case b => exact rfl)); intro t tc))
  (k_with "eval Attribute Name" => (k_here; (with_reducible show wpAny _ _ (eval (Expr.Attribute (Expr.Name (PySem.Str.ofString "self") _) (PySem.Str.ofString "state") _) _) _ _ _); k_dflt (refine' at_state ?F ?X ?N ?I ?s ?hh ?_ ?a ?b; (case F => k_asm); (case X => k_asm); (case I => k_asm); (case N => first | k_asm | exact newsTl (by k_asm)); (case s => exact rfl); (case hh => exact rfl); (case a => exact rfl); (case b => exact rfl)); intro tc))
  (k_with "eval Attribute Name" => (k_here; (with_reducible show wpAny _ _ (eval (Expr.Attribute (Expr.Name (PySem.Str.ofString "self") _) (PySem.Str.ofString "token") _) _) _ _ _); k_dflt (refine' at_token ?F ?X ?N ?I ?s ?hh ?_ ?a ?b; (case F => k_asm); (case X => k_asm); (case I => k_asm); (case N => first | k_asm | exact newsTl (by k_asm)); (case s => exact rfl); (case hh => exact rfl); (case a => exact rfl); (case b => exact rfl)); intro tc))
  (k_with "eval Attribute Name" => (k_here; (with_reducible show wpAny _ _ (eval (Expr.Attribute (Expr.Name (PySem.Str.ofString "self") _) (PySem.Str.ofString "debug") _) _) _ _ _); k_dflt (refine' at_debug ?F ?X ?N ?I ?s ?_ ?a ?b; (case F => k_asm); (case X => k_asm); (case I => k_asm); (case N => first | k_asm | exact newsTl (by k_asm)); (case s => exact rfl); (case a => exact rfl); (case b => exact rfl)); intro t tc))
  (k_with "getAttr ref" => (k_here; (with_reducible show wpAny _ _ (getAttr _ (PySem.Str.ofString "state") _) _ _ _); k_dflt (refine' li_state ?F ?X ?N ?I ?hh ?_; (case F => k_asm); (case X => k_asm); (case I => k_asm); (case N => first | k_asm | exact newsTl (by k_asm)); (case hh => exact rfl)); intro tc))
  (k_with "getAttr ref" => (k_here; (with_reducible show wpAny _ _ (getAttr _ (PySem.Str.ofString "token") _) _ _ _); k_dflt (refine' li_token ?F ?X ?N ?I ?hh ?_; (case F => k_asm); (case X => k_asm); (case I => k_asm); (case N => first | k_asm | exact newsTl (by k_asm)); (case hh => exact rfl)); intro tc))
  (k_with "getAttr ref" => (k_here; (with_reducible show wpAny _ _ (getAttr _ (PySem.Str.ofString "lineno") _) _ _ _); k_dflt (refine' li_lineno ?F ?X ?N ?I ?_; (case F => k_asm); (case X => k_asm); (case I => k_asm); (case N => first | k_asm | exact newsTl (by k_asm));); intro i t tc))
  (k_with "setAttr ref" => (k_here; (with_reducible show wpAny _ _ (setAttr _ (PySem.Str.ofString "state") _) _ _ _); k_dflt (refine' li_setSt ?F ?X ?N ?I ?_; (case F => k_asm); (case X => k_asm); (case I => k_asm); (case N => first | k_asm | exact newsTl (by k_asm))); intro h7 led7 tc F7 N7 I7))
  (k_with "setAttr ref" => (k_here; (with_reducible show wpAny _ _ (setAttr _ (PySem.Str.ofString "token") _) _ _ _); k_dflt (refine' li_setTk ?F ?X ?N ?I ?_; (case F => k_asm); (case X => k_asm); (case I => k_asm); (case N => first | k_asm | exact newsTl (by k_asm))); intro h7 led7 tc F7 N7 I7))
  (k_with "setAttr ref" => (k_here; (with_reducible show wpAny _ _ (setAttr _ (PySem.Str.ofString "lineno") _) _ _ _); k_dflt (refine' li_setLn ?F ?X ?N ?I ?_; (case F => k_asm); (case X => k_asm); (case I => k_asm); (case N => first | k_asm | exact newsTl (by k_asm))); intro h7 led7 tc F7 N7 I7))
  (k_with "truthy ref" => (k_here; first
  | (refine' li_truth3 ?N ?I ?l ?_; (case I => k_asm); (case N => first | k_asm | exact newsTl (by k_asm)); (case l => first | assumption | decide); intro tc; (try dsimp only [List.isEmpty_nil, List.isEmpty_cons, Bool.not_true, Bool.not_false]))
  | (refine' li_truth1 ?N ?I ?_; (case I => k_asm); (case N => first | k_asm | exact newsTl (by k_asm)); intro tc)
  | (refine' li_truth2 ?N ?I ?_; (case I => k_asm); (case N => first | k_asm | exact newsTl (by k_asm)); intro tc)))
  (k_with "getMethod ref" => (k_here; (with_reducible show wpAny _ _ (getMethod (Value.ref _) (PySem.Str.ofString "append") _) _ _ _); refine' li_appM ?N ?I ?_; (case I => k_asm); (case N => first | k_asm | exact newsTl (by k_asm))))
  (k_with "getMethod ref" => (k_here; (with_reducible show wpAny _ _ (getMethod (Value.ref _) (PySem.Str.ofString "pop") _) _ _ _); refine' li_popM ?N ?I ?_; (case I => k_asm); (case N => first | k_asm | exact newsTl (by k_asm))))
  (k_with "getMethod ref" => (k_here; (with_reducible show wpAny _ _ (getMethod (Value.ref _) (PySem.Str.ofString "read") _) _ _ _); refine' li_readM ?F ?X ?N ?I ?_; (case F => k_asm); (case X => k_asm); (case I => k_asm); (case N => first | k_asm | exact newsTl (by k_asm))))
  (k_with "getMethod ref" => (k_here; (with_reducible show wpAny _ _ (getMethod (Value.ref _) (PySem.Str.ofString "read_token") _) _ _ _); refine' li_tokM ?F ?X ?N ?I ?_; (case F => k_asm); (case X => k_asm); (case I => k_asm); (case N => first | k_asm | exact newsTl (by k_asm))))
  (k_with "getMethod ref" => (k_here; (with_reducible show wpAny _ _ (getMethod (Value.ref _) (PySem.Str.ofString "get_token") _) _ _ _); refine' li_gettM ?F ?X ?N ?I ?_; (case F => k_asm); (case X => k_asm); (case I => k_asm); (case N => first | k_asm | exact newsTl (by k_asm))))
  (k_with "call builtin:collections.deque.append" => (k_here; refine' li_app ?F ?N ?I ?_; (case F => k_asm); (case I => k_asm); (case N => first | k_asm | exact newsTl (by k_asm)); intro h7 led7 F7 N7 I7))
  (k_with "call builtin:collections.deque.pop" => (k_here; refine' li_pop ?F ?N ?I ?_; (case F => k_asm); (case I => k_asm); (case N => first | k_asm | exact newsTl (by k_asm)); intro h7 led7 t7 F7 N7 I7))
  (k_with "call ref" => (k_here; (with_reducible show wpAny _ _ (PySem.call (Value.ref 555) [Value.ref _, Value.int _ _]) _ _ _); (k_dflt (refine' li_read _ _ _ _ _ _ _ _ _ _ _ _ _ _ _ _ _ _ _ _ _ _ _ _ _ _ _ _ _ _ ?k1 ?k2 ?k3 ?k4 ?k5 ?kK ?kp ?kd ?ku ?_; (case k1 => k_asm); (case k2 => k_asm); (case k3 => k_asm); (case k5 => k_asm); (case kK => exact rfl); (case kp => exact ⟨by assumption, by assumption, by assumption⟩); (case k4 => first | k_asm | exact newsTl (by k_asm)); (case kd => k_room); (case ku => k_room); intro nx7 p7 t7 led7 h7 tk7 hN7 hp7 F7 N7 I7; (try dsimp only); (try k_fold)))))
  (k_with "eval Attribute Name" => (k_here; (with_reducible show wpAny _ _ (eval (Expr.Attribute (Expr.Name (PySem.Str.ofString "self") _) (PySem.Str.ofString "punctuation_chars") _) _) _ _ _); (k_dflt (refine' at_punct ?k1 ?k2 ?k3 ?k4 ?k5 ?kK ?kp ?s ?kd ?ku ?_ ?b; (case k1 => k_asm); (case k2 => k_asm); (case k3 => k_asm); (case k5 => k_asm); (case kK => exact rfl); (case kp => k_asm); (case k4 => first | k_asm | exact newsTl (by k_asm)); (case s => exact rfl); (case kd => k_room); (case ku => k_room); (case b => exact rfl); intro t7 h7 tk7 F7 N7; (try dsimp only); (try k_fold)))))
  (k_with "exec While" => (k_here; refine hold_of ?_))
  (k_with "truthy str" => (k_here; refine' truthy_pos' ?a ?b ?_; (case a => with_reducible assumption); (case b => with_reducible assumption); intro tq))
  (k_with "truthy str" => (k_here; (with_reducible show wpAny _ _ (truthy (Value.str (ch1 _) _)) _ _ _); refine truthy_ch ?_; intro tq))
  (k_with "compareOp Eq str str" => (k_here; refine' eq_is ?e ?_; (case e => first | with_reducible assumption | exact (show _ = true by decide +kernel) | exact (show _ = false by decide +kernel))))
  (k_with "compareOp In str str" => (k_here; first
  | (refine' in_is ?e ?_; (case e => first | with_reducible assumption | exact (show _ = true by decide +kernel) | exact (show _ = false by decide +kernel)))
  | refine hold_of ?_))
  (k_with "exec If" => (k_here; refine wpAny_If ?_))
  (k_with "compareOp NotIn str str" => (k_here; first
  | (refine' notIn_is ?e ?_; (case e => first | with_reducible assumption | exact (show _ = true by decide +kernel) | exact (show _ = false by decide +kernel)); (try dsimp only [Bool.not_true, Bool.not_false]))
  | refine hold_of ?_))
  (k_with "execs cons" => (k_here; (with_reducible show wpAny _ _ (execs (Stmt.While _ _ _ _ :: _) _) _ _ _); refine hold_of ?_))
  dsimp only [MyCl]; k_fill; intros
  rename_i loose mean mg mb dp un gd cn cs a ccd cl outer A₀ base h₀ L m s Q E B0 F0 X0 N0 T0 kk hpre hdp hu hret
  obtain ⟨I, hx, hp, hpb, hR, hwc⟩ := hpre
  have r0 : dp < recursionLimit := Nat.lt_of_le_of_lt (Nat.le_add_right _ _) hdp
  have r1 : dp + 1 < recursionLimit := rm hdp (by decide)
  have r5 : dp + 1 + 4 < recursionLimit := rm (b := 5) hdp (by decide)
  have r8 : dp + 1 + 8 < recursionLimit := rm (b := 9) hdp (by decide)
  have u5 : un + 3 + 64 < cLine := rm (b := 67) hu (by decide)
  have u8 : un + 3 + 16 * 8 < cLine := rm (b := 131) hu (by decide)
  refine wpAny_call ?_
  k_dflt cell_enter
  refine let_A ?_
  intro A1
  k_steps
  unfold Hold
  refine cut_first (LoopP w c rest (pb ++ c.x.cps.toList.drop p) g L' s) ?loop ?tail
  case tail =>
    rintro s' ⟨acc, p', stv, pb', tt', u, h', led', tk', rfl, hE, F1, N1, I1⟩
    k_steps
    all_goals exact hret _ _ _ _ _ _ _ _ _ hE (by k_asm) (by k_asm) (by k_asm)
  case loop =>
    generalize hR0 : pb ++ c.x.cps.toList.drop p = R0 at hR hret
    refine While_inv2 (TurnJ w c rest R0) (by k_asm) (by k_asm) (n₀ := (pb ++ c.x.cps.toList.drop p).length)
      ⟨0, p, "", pb, ts, tt, _, hp, hpb, .inl ⟨rfl, rfl, hR0, hR⟩, rfl, rfl, rfl, rfl, I⟩ ?turn (by with_unfolding_all passes_own)
    case turn =>
      rintro n m' news' h₁ tk₁ F₁ N₁ ⟨st, p1, acc, pb1, ts1, tt1, te1, hp1, hpb1, hC, hn, hm1, hm2, hm3, I1⟩
      have F₂ := fr_kst F₁ (ps := [("self", .ref c.lx), ("quoted", .bool false), ("escapedstate", .str " " te1)]) (by simp [hm1, hm2, hm3])
      clear F₁ hret I
      iterate 4 (first | walk1 | (dsimp only; walk1))
      refine cut_first (FetchP w c rest g L' s p1 pb1 (.str (stOf st) ts1) (.str acc tt1) te1) ?fetch ?more
      case fetch =>
        rcases pb1 with _ | ⟨d, _ | ⟨d2, r2⟩⟩
        · k_steps
          all_goals
            unfold Hold
            exact ⟨rfl, _, _, _, _, _, _, _, rfl, fr_kst (by k_asm) (by simp only [List.forall_mem_cons]; exact ⟨rfl, rfl, rfl, rfl, fun _ h => nomatch h⟩), by k_asm, by k_asm, by assumption, by assumption⟩
        · k_steps
          all_goals
            unfold Hold
            exact ⟨rfl, ch1 d, p1, _, _, _, _, _, rfl, fr_kst (by k_asm) (by simp only [List.forall_mem_cons]; exact ⟨rfl, rfl, rfl, rfl, fun _ h => nomatch h⟩), by k_asm, by k_asm, hp1, .inr ⟨d, rfl, rfl⟩⟩
        · exact absurd hpb1 (by simp)
      case more =>
        rintro s' ⟨nx, p2, tnx, u, h2', led2, tk2, rfl, F3, N3, I3, hp2, hNx⟩
        clear N₁ F₂ I1
        refine cut_first (LineP w c rest g L' s p2 (.str (stOf st) ts1) (.str acc tt1) te1 nx tnx) ?line ?main
        case line =>
          cases hb : (nx.cps.toList == (Str.ofString "\n").cps.toList) with
          | true =>
            k_steps
            all_goals
              unfold Hold
              exact ⟨rfl, _, _, _, _, rfl, by k_asm, by k_asm, by k_asm⟩
          | false =>
            k_steps
            all_goals
              unfold Hold
              exact ⟨rfl, _, _, _, _, rfl, by k_asm, by k_asm, by k_asm⟩
        case main =>
          rintro s' ⟨u, h3', led3, tk3, rfl, F4, N4, I4⟩
          clear F3 N3 I3
          have hlen : R0.length ≤ 10001 := by
            have e1 : (c.x.cps.toList.drop p).length = c.x.length - p := by rw [List.length_drop]; rfl
            rw [← hR0, List.length_append, e1]
            omega
          rcases hC with ⟨rfl, rfl, hrem, -⟩ | ⟨rfl, hne, hall, hrem⟩ | ⟨rfl, hne, hall, hrem⟩
          · rcases hNx with ⟨rfl, h0, rfl⟩ | ⟨d, rfl, hd⟩
            · exact absurd (hrem ▸ h0) hR
            · have ql : (ch1 d).length = 1 := rfl
              have q2 : Txt.contains (Str.ofString "") (ch1 d) = false := by rw [contains_ch]; rfl
              k_steps
              unfold Hold
              cases q3 : Txt.contains c.wc (ch1 d) with
              | true =>
                k_steps
                all_goals exact ⟨_, _, _, _, _, rfl, by k_asm, by k_asm, by rw [hn, hd]; exact Nat.lt_succ_self _, 1, p2, _, [], _, _, te1, hp2, Nat.zero_le _, cfg_first1 hrem hd (wcEnd hwc q3), rfl, rfl, rfl, rfl, by k_asm⟩
              | false =>
                k_steps
                unfold Hold
                cases q4 : Txt.contains (Str.ofString "\r\n") (ch1 d) with
                | true =>
                  k_steps
                  all_goals exact ⟨_, _, _, _, _, rfl, by k_asm, by k_asm, by rw [hn, hd]; exact Nat.lt_succ_self _, 2, p2, _, [], _, _, te1, hp2, Nat.zero_le _, cfg_first2 hrem hd (crT q4), rfl, rfl, rfl, rfl, by k_asm⟩
                | false =>
                  k_steps
                  all_goals exact ⟨_, _, _, _, _, rfl, by k_asm, by k_asm, by rw [hn, hd]; exact Nat.lt_succ_self _, 1, p2, _, [], _, _, te1, hp2, Nat.zero_le _, cfg_first1 hrem hd (crF q4), rfl, rfl, rfl, rfl, by k_asm⟩
          · have hacc : acc.length ≤ 10001 := accLen hrem hlen
            have hacc1 : 1 ≤ acc.length := accPos hne
            rcases hNx with ⟨rfl, h0, rfl⟩ | ⟨d, rfl, hd⟩
            · k_steps
              all_goals (show Hold _; unfold Hold; exact ⟨rfl, acc, c.x.length, _, [], _, _, _, _, _, rfl, end_eof hne hall hrem h0, fr_kst (by k_asm) (by simp only [List.forall_mem_cons]; exact ⟨rfl, rfl, fun _ h => nomatch h⟩), by k_asm, by k_asm⟩)
            · have ql : (ch1 d).length = 1 := rfl
              have q2 : Txt.contains (Str.ofString "") (ch1 d) = false := by rw [contains_ch]; rfl
              k_steps
              unfold Hold
              cases q3 : Txt.contains c.wc (ch1 d) with
              | true =>
                k_steps
                all_goals exact ⟨_, _, _, _, _, rfl, by k_asm, by k_asm, by rw [hn, hd]; exact Nat.lt_succ_self _, 1, p2, _, [], _, _, te1, hp2, Nat.zero_le _, cfg_more1 hall hrem hd (wcEnd hwc q3), rfl, rfl, rfl, rfl, by k_asm⟩
              | false =>
                k_steps
                unfold Hold
                cases q4 : Txt.contains (Str.ofString "\r\n") (ch1 d) with
                | true =>
                  k_steps
                  all_goals (show Hold _; unfold Hold; exact ⟨rfl, acc, p2, _, [d], _, _, _, _, _, rfl, end_more hp2 hne hall hrem hd (b := false) (crT q4), fr_kst (by k_asm) (by simp only [List.forall_mem_cons]; exact ⟨rfl, rfl, fun _ h => nomatch h⟩), by k_asm, by k_asm⟩)
                | false =>
                  k_steps
                  all_goals exact ⟨_, _, _, _, _, rfl, by k_asm, by k_asm, by rw [hn, hd]; exact Nat.lt_succ_self _, 1, p2, _, [], _, _, te1, hp2, Nat.zero_le _, cfg_more1 hall hrem hd (crF q4), rfl, rfl, rfl, rfl, by k_asm⟩
          · have hacc : acc.length ≤ 10001 := accLen hrem hlen
            have hacc1 : 1 ≤ acc.length := accPos hne
            rcases hNx with ⟨rfl, h0, rfl⟩ | ⟨d, rfl, hd⟩
            · k_steps
              all_goals (show Hold _; unfold Hold; exact ⟨rfl, acc, c.x.length, _, [], _, _, _, _, _, rfl, end_eof hne hall hrem h0, fr_kst (by k_asm) (by simp only [List.forall_mem_cons]; exact ⟨rfl, rfl, fun _ h => nomatch h⟩), by k_asm, by k_asm⟩)
            · have ql : (ch1 d).length = 1 := rfl
              have q2 : Txt.contains (Str.ofString "") (ch1 d) = false := by rw [contains_ch]; rfl
              k_steps
              unfold Hold
              cases q4 : Txt.contains (Str.ofString "\r\n") (ch1 d) with
              | true =>
                k_steps
                all_goals exact ⟨_, _, _, _, _, rfl, by k_asm, by k_asm, by rw [hn, hd]; exact Nat.lt_succ_self _, 2, p2, _, [], _, _, te1, hp2, Nat.zero_le _, cfg_more2 hall hrem hd (crT q4), rfl, rfl, rfl, rfl, by k_asm⟩
              | false =>
                k_steps
                all_goals (show Hold _; unfold Hold; exact ⟨rfl, acc, p2, _, [d], _, _, _, _, _, rfl, end_more hp2 hne hall hrem hd (b := true) (crF q4), fr_kst (by k_asm) (by simp only [List.forall_mem_cons]; exact ⟨rfl, rfl, fun _ h => nomatch h⟩), by k_asm, by k_asm⟩)
end Mine
theorem Mine.wend_Lx : True := by
  k_with_none
  trivial
open PySem PySem.W PyProof.Rows PySem.Spec PySem.Calls
namespace Mine
open PySem.Spec
section
variable {prog : Program} {w : World} {A₀ : Around} {E : Value → Shared → Prop} {s' : Shared} {base g h : Heap} {outer : List Env} {L a e : Addr} {m : Str → Option Value} {name : Str} {scope : Scope} {cd : Value}
  {b₀ : Stmt} {suite : List Stmt} {pos np : Pos} {rest : List ExceptHandler} {Q : Flow → Shared → Prop} {news : List (Addr × Obj)} {KF : Frag}
  {p : Program} {loose : List Str} {mean : ExcName → Option Value} {mg mb : Str → Option Value} {x : Str} {X T' : String}
/-- an exception that a built-in raised in this very frame, caught by the frame's own try, whatever lies below -/
theorem caught_new (K : Below A₀ base outer g) (F : Fr g L h m) (N : News g L h news) (hx : Heap.NewExc h s'.heap e X) (XB : KF.In base) (TB : Top p loose mean mg mb base)
    (D : KtsDicts (outer.filterMap (·.frame)) g)
    (ex : nsIn KF mainGlobals x = some none) (hv : bootBuiltins x = some (.type T')) (hn' : x ≠ "__name__")
    (hexc : isSubtype (.type T') (.type "BaseException") = pure true) (hnt : isSubtype (.type ((Manifest.find? T').elim "type" fun y => y.metatype)) (.type "tuple") = pure false) (hsub : isSubtype (.type X) (.type T') = pure true)
    (k : ∀ h' g', KtsTurn (outer.filterMap (·.frame)) g g' → Fr g' L h' m → News g' L h' news → Below A₀ base outer g' → KF.In g' → Top p loose mean mg mb g' → KtsDicts (outer.filterMap (·.frame)) g' →
      wpAny (model prog w) ((A₀.deeper (envOf name scope L a cd)).mark (some (.ref e))) (execs (b₀ :: suite) (envOf name scope L a cd)) Q E { s' with heap := h' })
    (hk : scope.kind = .function := by rfl) (hxk : (envOf name scope L a cd).kindOf x = some .globalImplicit := by rfl) (hd : (x == ("__debug__" : Str)) = false := by decide)
    (hE : PassesOwnAt (model prog w) ((A₀.deeper (envOf name scope L a cd)).mark (some (.ref e))) (A₀.deeper (envOf name scope L a cd)) (envOf name scope L a cd) E := by passes_own) :
    wpAny (model prog w) (A₀.deeper (envOf name scope L a cd)) (noteFrame (.ref e) (envOf name scope L a cd))
      (fun _ s₂ => wpAny (model prog w) (A₀.deeper (envOf name scope L a cd)) (setFlight (.ref e) none) (fun _ s₃ =>
        wpAny (model prog w) (A₀.deeper (envOf name scope L a cd)) (handleBy (.ref e) (envOf name scope L a cd) (.ExceptHandler (some (.Name x np)) none (b₀ :: suite) pos :: rest)) Q E s₃) E s₂) E s' := by
  have K' := K.push (name := name) (a := a) (cd := cd) F hk
  have hin : ∀ env ∈ (envOf name scope L a cd :: outer), ∀ b, env.frame = some b → b ∈ (envOf name scope L a cd :: outer).filterMap (·.frame) := fun env he b hb => List.mem_filterMap.mpr ⟨env, he, hb⟩
  have sg : ∀ b o, h.get? b = some o → b ∉ (envOf name scope L a cd :: outer).filterMap (·.frame) → (hideAll h ((envOf name scope L a cd :: outer).filterMap (·.frame))).get? b = some o := fun b o q nm => hideAll_get _ q nm
  have hl : ∀ q ∈ news, (hideAll h ((envOf name scope L a cd :: outer).filterMap (·.frame))).get? q.1 = some q.2 := fun q hq => by
    refine hideAll_get _ (N q hq).1 fun hm => ?_
    obtain ⟨env, he, hf⟩ := List.mem_filterMap.mp hm
    rcases List.mem_cons.mp he with rfl | he
    · exact (N q hq).2.1 (Option.some.inj hf).symm
    · obtain ⟨o, ho, _⟩ := (K.frames.mem (List.mem_filterMap.mpr ⟨env, he, hf⟩)).2
      rw [(N q hq).2.2] at ho; cases ho
  obtain ⟨ob, tp, he, hcls, hdat⟩ := hx.there
  have hen : (hideAll h ((envOf name scope L a cd :: outer).filterMap (·.frame))).get? e = none := by
    cases q : (hideAll h ((envOf name scope L a cd :: outer).filterMap (·.frame))).get? e with
    | none => rfl
    | some o => have := of_hideAll _ q; rw [hx.new] at this; cases this
  have hLn : (hideAll h ((envOf name scope L a cd :: outer).filterMap (·.frame))).get? L = none := hideAll_none _ (List.mem_filterMap.mpr ⟨_, .head _, rfl⟩)
  have hff : s'.heap.FunFrames (hideAll h ((envOf name scope L a cd :: outer).filterMap (·.frame))) (envOf name scope L a cd :: outer) := (funFrames_hide K'.frames hin).of_keeps fun b o hb _ => ⟨o, hx.keeps b o hb, rfl⟩
  have step : ∀ {P : Unit → Shared → Prop}, (∀ h₄, Heap.HeldW (hideAll h ((envOf name scope L a cd :: outer).filterMap (·.frame))) (envOf name scope L a cd :: outer) e (.type X) tp L h₄ → s'.heap.UpToSlots h₄ → P () { s' with heap := h₄ }) →
      wpAny (model prog w) (A₀.deeper (envOf name scope L a cd)) (noteFrame (.ref e) (envOf name scope L a cd)) P E s' := by
    intro P hP
    unfold noteFrame
    simp only [show (envOf name scope L a cd).frame = some L from rfl]
    refine wpAny_bind (wpAny_field he hdat (x := .none) rfl ?_)
    rw [if_neg (by decide)]
    refine wpAny_entryW (a0 := tp) (Around.frames_deeper K.stack) hff rfl he (fun b o eb => hx.keeps b o (of_hideAll _ eb)) hen hdat (by show 1 < 6; decide) rfl fun h' hN => ?_
    obtain ⟨k1, k2, k3, k4⟩ := hN
    exact hP h' ⟨k1, hen, k2, by rw [← hcls]; exact k3⟩ k4
  refine step fun h₄ hheld₄ hsm₄ => ?_
  refine wpAny_landsW hheld₄ fun h₅ hheld hsm₅' => ?_
  have hsm₅ := ((Heap.UpToSlots.of_keeps hx.keeps).trans hsm₄).trans hsm₅'
  obtain ⟨g₅, T₅, F₅, K₅⟩ := kts_ground K F sg hheld.1 hsm₅
  have X₅ : KF.In g₅ := XB.keeps K₅.stays
  have P₅ : TopRead p loose mg mb g₅ := topRead_of (TB.keeps K₅.stays)
  obtain ⟨ob', hob, hobc⟩ := hheld.there
  refine wpAny_handleBy_builtin (X := X) (T := T') (b := true) hexc hnt hsub (name_B F₅ X₅ P₅ ex hv hn' ⟨rfl, ⟨ob', hob, hobc⟩, ?_⟩ hk hxk hd)
  refine lands_againW hheld fun h₆ hfl₆ hsm₆ => ?_
  obtain ⟨g₆, T₆, F₆, K₆⟩ := kts_ground K F sg hfl₆.1 (hsm₅.trans hsm₆)
  have Nl : News g₆ L h₆ news := fun q hq => ⟨hfl₆.1 _ _ (hl q hq), (N q hq).2.1, T₆.none_ _ (N q hq).2.2⟩
  have X₆ : KF.In g₆ := XB.keeps K₆.stays
  have P₆ : Top p loose mean mg mb g₆ := TB.keeps K₆.stays
  have D₆ : KtsDicts (outer.filterMap (·.frame)) g₆ := D.turn T₆
  exact wpAny_passesOwnAt hE (k h₆ g₆ T₆ F₆ Nl K₆ X₆ P₆ D₆)
end
section
variable {prog : Program} {w : World} {A : Around} {E : Value → Shared → Prop} {s : Shared} {h₀ : Heap} {L aa : Addr} {m : Str → Option Value} {news news' : List (Addr × Obj)} {as : List Value} {ys : List Int} {n : Nat}
def eqI (x : Int) : Value → Bool | .int a _ => a == x | _ => false
theorem ints_eq {as : List Value} {ys : List Int} (h : IntsAre as ys) (x : Int) (t : Tok) : ∀ y, y ∈ as → MeetsSeq.EqGives y (.int x t) (eqI x y) := by
  induction h with
  | nil => intro y hy; cases hy
  | cons n u _ ih =>
    intro y hy
    cases hy with
    | head => exact MeetsSeq.EqGives.int n x u t
    | tail _ hy => exact ih y hy
theorem ints_find {as : List Value} {ys : List Int} (h : IntsAre as ys) {x : Int} (hx : x ∈ ys) : ∃ j, ∃ hj : j < as.length, eqI x as[j] = true ∧ (∀ i (hi : i < as.length), i < j → eqI x as[i] = false) ∧ IntsAre (as.eraseIdx j) (ys.erase x) := by
  induction h with
  | nil => cases hx
  | @cons n u vs ns hv ih =>
    by_cases e : n = x
    · subst e
      refine ⟨0, by simp, by simp [eqI], fun i hi hi0 => absurd hi0 (by first | lia | omega), ?_⟩
      simpa using hv
    · have hx' : x ∈ ns := by
        cases hx with
        | head => exact absurd rfl e
        | tail _ h => exact h
      obtain ⟨j, hj, h1, h2, h3⟩ := ih hx'
      refine ⟨j + 1, by simpa using hj, by simpa using h1, ?_, ?_⟩
      · intro i hi hij
        cases i with
        | zero => simpa [eqI] using e
        | succ i => simpa using h2 i (by simpa using hi) (by first | lia | omega)
      · rw [List.erase_cons_tail (by simpa using e)]
        exact .cons n u h3
theorem ints_none {as : List Value} {ys : List Int} (h : IntsAre as ys) {x : Int} (hx : x ∉ ys) : ∀ i (hi : i < as.length), eqI x as[i] = false := by
  induction h with
  | nil => intro i hi; cases hi
  | @cons n u vs ns hv ih =>
    have h1 : n ≠ x := fun e => hx (by rw [e]; exact .head _)
    have h2 : x ∉ ns := fun e => hx (.tail _ e)
    intro i hi
    cases i with
    | zero => simpa [eqI] using h1
    | succ i => simpa using ih h2 i (by simpa using hi)
theorem rm_hit {x : Int} {t : Tok} {M : Addr} {oM : Obj} {post : List (Addr × Obj)} {Q : Value → Shared → Prop} (F : Fr h₀ L s.heap m) (N : News h₀ L s.heap ((M, oM) :: (aa, listOf as.toArray n) :: post)) (hM : M ≠ aa) (hp : ∀ p ∈ post, p.1 ≠ aa) (hI : IntsAre as ys) (hx : x ∈ ys) (hsz : as.length ≤ 1000)
    (h : ∀ (as' : List Value) n' h', IntsAre as' (ys.erase x) → as'.length ≤ as.length → Fr h₀ L h' m → News h₀ L h' ((M, oM) :: (aa, listOf as'.toArray n') :: post) → Q .none { s with heap := h' }) :
    wpAny (model prog w) A (call (.builtin "list.remove") [.ref aa, .int x t]) Q E s := by
  have hd := (N (aa, listOf as.toArray n) (.tail _ (.head _))).1
  have z := (N (aa, listOf as.toArray n) (.tail _ (.head _))).2
  obtain ⟨j, hj, h1, h2, h3⟩ := ints_find hI hx
  refine call_meets PySem.F.slot_list_remove ⟨_, hd, rfl⟩ PySem.F.entry_list_remove (PySem.F.args_list_remove_2 _ _)
    (MeetsSeq.list_remove aa as.toArray n (.int x t) (eqI x) (fun y hy => ints_eq hI x t y (by simpa using hy)) j (by simpa using hj) (by simpa using h1) (fun i hi hij => by simpa using h2 i (by simpa using hi) hij) (by simp only [List.size_toArray, sizeLine_eq]; first | lia | omega)) ⟨hd, ?_⟩
  have e0 : as.toArray.eraseIdxIfInBounds j = (as.eraseIdx j).toArray := by
    apply Array.ext'
    simp [Array.eraseIdxIfInBounds, hj]
  have e : Obj.mapSeq (fun xs => xs.eraseIdxIfInBounds j) (listOf as.toArray n) = listOf (as.eraseIdx j).toArray (if (as.toArray.eraseIdxIfInBounds j).size == as.toArray.size then n else n + 1) := by rw [← e0]; rfl
  refine h (as.eraseIdx j) (if (as.toArray.eraseIdxIfInBounds j).size == as.toArray.size then n else n + 1) _ h3 (by rw [List.length_eraseIdx]; split <;> first | lia | omega) (F.change (Heap.SameBut.update ..) z.1 z.2) ?_
  refine news_set (pre := [(M, oM)]) N (fun p hp => by rw [List.mem_singleton.mp hp]; exact hM) hp (Heap.SameBut.update ..) ?_
  rw [Heap.get?_update_self _ hd (by rw [e]; rfl), e]
theorem rm_miss {x : Int} {t : Tok} {Q : Value → Shared → Prop} (hd : s.heap.get? aa = some (listOf as.toArray n)) (hh : A.handled = none) (hI : IntsAre as ys) (hx : x ∉ ys)
    (h : ∀ h' tk e, Heap.NewExc s.heap h' e "ValueError" → E (.ref e) { s with heap := h', toks := tk }) :
    wpAny (model prog w) A (call (.builtin "list.remove") [.ref aa, .int x t]) Q E s :=
  call_meets PySem.F.slot_list_remove ⟨_, hd, rfl⟩ PySem.F.entry_list_remove (PySem.F.args_list_remove_2 _ _)
    (MeetsSeq.list_remove_none aa as.toArray n (.int x t) (eqI x) (fun y hy => ints_eq hI x t y (by simpa using hy)) (fun i hi => by simpa using ints_none hI hx i (by simpa using hi))) ⟨hd, hh, fun h' tk e hx => h h' tk e hx⟩
end
/-- the ground that an exception may have turned -/
structure Gr (A₀ : Around) (base : Heap) (outer : List Env) (KF : Frag) (p : Program) (loose : List Str) (mean : ExcName → Option Value) (mg mb : Str → Option Value) (g g' : Heap) : Prop where
  turn : KtsTurn (outer.filterMap (·.frame)) g g'
  below : Below A₀ base outer g'
  here : KF.In g'
  top : Top p loose mean mg mb g'
  dicts : KtsDicts (outer.filterMap (·.frame)) g'
def TurnStep (G : Heap → Prop) (L : Addr) (J : Nat → (Str → Option Value) → List (Addr × Obj) → Prop) (s : Shared) (Q : Flow → Shared → Prop) (n : Nat) (f : Flow) (s₃ : Shared) : Prop :=
  match f with
  | .next | .cont => ∃ g' h' tk m₂ news₂ n', G g' ∧ s₃ = { s with heap := h', toks := tk } ∧ Fr g' L h' m₂ ∧ News g' L h' news₂ ∧ n' < n ∧ J n' m₂ news₂
  | .brk => Q .next s₃
  | .ret v => Q (.ret v) s₃
theorem While_turn {prog : Program} {w : World} {A : Around} {E : Value → Shared → Prop} {Q : Flow → Shared → Prop} {s : Shared} {env : Env} {g : Heap} {L : Addr} {test : Expr} {body : List Stmt} {pos : Pos} {m : Str → Option Value} {news : List (Addr × Obj)} (G : Heap → Prop) (J : Nat → (Str → Option Value) → List (Addr × Obj) → Prop) {n₀ : Nat}
    (hG : G g) (F : Fr g L s.heap m) (N : News g L s.heap news) (hJ : J n₀ m news)
    (turn : ∀ g' n m₁ news₁ h₁ tk₁, G g' → Fr g' L h₁ m₁ → News g' L h₁ news₁ → J n m₁ news₁ →
      wpAny (model prog w) A (isTrue test env (eval test env)) (fun b s₂ =>
        if b = true then wpAny (model prog w) A (execs body env) (TurnStep G L J s Q n) E s₂ else Q .next s₂) E { s with heap := h₁, toks := tk₁ })
    (hE : PassesOwn (model prog w) A env E := by passes_own) :
    wpAny (model prog w) A (exec (.While test body [] pos) env) Q E s := by
  refine wpAny_While (codeAny_whileLoop (fun n s' => ∃ g' h₁ tk₁ m₁ news₁, G g' ∧ s' = { s with heap := h₁, toks := tk₁ } ∧ Fr g' L h₁ m₁ ∧ News g' L h₁ news₁ ∧ J n m₁ news₁) ?_ n₀ ⟨g, s.heap, s.toks, m, news, hG, rfl, F, N, hJ⟩)
  rintro n s' ⟨g', h₁, tk₁, m₁, news₁, hG', rfl, F₁, N₁, J₁⟩
  refine wpAny_mono (turn g' n m₁ news₁ h₁ tk₁ hG' F₁ N₁ J₁) (fun b s₂ h₂ => ?_) hE
  cases b with
  | false =>
    simp only [Bool.false_eq_true, if_false] at h₂ ⊢
    exact wpAny_execs_nil h₂
  | true =>
    simp only [if_true] at h₂ ⊢
    refine wpAny_mono h₂ (fun f s₃ h₃ => ?_) hE
    cases f with
    | next =>
      obtain ⟨g'', h', tk, m₂, news₂, n', hG2, rfl, F₂, N₂, hn, J₂⟩ := h₃
      exact ⟨n', hn, g'', h', tk, m₂, news₂, hG2, rfl, F₂, N₂, J₂⟩
    | cont =>
      obtain ⟨g'', h', tk, m₂, news₂, n', hG2, rfl, F₂, N₂, hn, J₂⟩ := h₃
      exact ⟨n', hn, g'', h', tk, m₂, news₂, hG2, rfl, F₂, N₂, J₂⟩
    | brk => exact h₃
    | ret v => exact h₃
/-- the same for a loop over a range -/
def TurnStepF (G : Heap → Prop) (L I : Addr) (oI : Obj) (Jn : (Str → Option Value) → List (Addr × Obj) → Prop) (s : Shared) (f : Flow) (s₂ : Shared) : Prop :=
  f = .next ∧ ∃ g' h' tk m₂ news₂, G g' ∧ s₂ = { s with heap := h', toks := tk } ∧ Fr g' L h' m₂ ∧ News g' L h' ((I, oI) :: news₂) ∧ (∀ p ∈ news₂, p.1 ≠ I) ∧ Jn m₂ news₂
def TurnFrom (prog : Program) (w : World) (A : Around) (E : Value → Shared → Prop) (G : Heap → Prop) (env : Env) (x : Str) (body : List Stmt) (Q : Flow → Shared → Prop) (xv : Value) (s₁ : Shared) : Prop :=
  ∃ (g : Heap) (r : Addr) (b : Int) (t u v : Tok) (n : Nat) (m : Str → Option Value) (news : List (Addr × Obj)) (J : Nat → (Str → Option Value) → List (Addr × Obj) → Prop), G g ∧ xv = .ref r ∧ A.handled = none ∧ IsRange s₁.heap r 0 b 1 t u v ∧ Builtin.Range.small 0 b 1 = true ∧ Builtin.Range.rangeSize 0 b 1 = ((n : Nat) : Int) ∧ Fr g env.locals s₁.heap m ∧ News g env.locals s₁.heap news ∧ J 0 m news ∧
    (∀ g' i t m₁ news₁ I oI h tk, G g' → i < n → J i m₁ news₁ → Fr g' env.locals h (fun y => if y = x then some (.int ((i : Nat) : Int) t) else m₁ y) → News g' env.locals h ((I, oI) :: news₁) → (∀ p ∈ news₁, p.1 ≠ I) →
      wpAny (model prog w) A (execs body env) (TurnStepF G env.locals I oI (J (i + 1)) s₁) E { s₁ with heap := h, toks := tk }) ∧
    ∀ g' h' tk m' news', G g' → Fr g' env.locals h' m' → News g' env.locals h' news' → J n m' news' → Q .next { s₁ with heap := h', toks := tk }
open PyProof.Rows.LCg in
theorem for_turn {prog : Program} {w : World} {A : Around} {E : Value → Shared → Prop} {Q : Flow → Shared → Prop} {s : Shared} {env : Env} {iter : Expr} {x : Str} {px pos : Pos} {body : List Stmt} (G : Heap → Prop) (hx : env.kindOf x = some .local)
    (hp : (env.scope.kind == .class || (env.scope.kind == .module && env.locals != env.globals)) = false)
    (h : wpAny (model prog w) A (eval iter env) (TurnFrom prog w A E G env x body Q) E s) (hs : ∀ x, foldedSetIterable iter env x = pure x := by intro _; rfl)
    (hE : PassesOwn (model prog w) A env E := by passes_own) : wpAny (model prog w) A (exec (.For (.Name x px) iter body [] pos) env) Q E s := by
  refine wpAny_For (wpAny_mono h (fun xv s₁ h₁ => ?_) fun _ _ e => e) hs
  obtain ⟨g, r, b, t, u, v, n, m, news, J, hG, rfl, hh, hr, hsm, hn, F, N, hJ, turn, done⟩ := h₁
  refine wpAny_pyIter_range hr hsm ?_
  have W := range_walks (prog := prog) (w := w) (A := A) (I := s₁.heap.objs.size) hh 0 n
  have hLI : env.locals ≠ s₁.heap.objs.size := Nat.ne_of_lt F.ns.lt
  refine codeAny_forLoop (fun k s' => ∃ g' h' tk i m' news', G g' ∧ s' = { s₁ with heap := h', toks := tk } ∧ i ≤ n ∧ k = n + 1 - i ∧ IsRangeIter h' s₁.heap.objs.size (0 + (i : Nat) * 1) ((n : Int) - (i : Nat)) 1 ∧ Fr g' env.locals h' m' ∧ News g' env.locals h' news' ∧ (∀ p ∈ news', p.1 ≠ s₁.heap.objs.size) ∧ g'.get? s₁.heap.objs.size = none ∧ J i m' news') ?_ (n + 1)
    ⟨g, _, s₁.toks, 0, m, news, hG, rfl, Nat.zero_le _, rfl, by show IsRangeIter _ _ _ _ _; rw [hn]; simpa using Heap.get?_push_size _ rfl, F.keeps (fun _ _ e => Heap.get?_push_of_some _ e), N.grown (fun _ _ e => Heap.get?_push_of_some _ e), fun p hp => Nat.ne_of_lt (Heap.lt_size (N p hp).1), next_is_new F, hJ⟩
  rintro k s' ⟨g', h', tk, i, m', news', hG', rfl, hi, rfl, hst, F', N', off, hI₀, J'⟩
  by_cases hlt : i < n
  · refine W.item i _ _ _ hlt hst fun v h₂ tk₂ hPv hst₂ hk₂ => ?_
    obtain ⟨tv, rfl⟩ := hPv
    have F₂ : Fr g' env.locals h₂ m' := fr_but F' hk₂ hLI hI₀
    have N₂ : News g' env.locals h₂ news' := news_but N' hk₂ off
    refine wpAny_assign_Name (wpAny_storeName_local hx F₂.ns (fun h₃ hn₃ hs₃ => ?_) hp)
    have F₃ := F₂.set hn₃ hs₃
    obtain ⟨oI, eI⟩ : ∃ oI, h₂.get? s₁.heap.objs.size = some oI := ⟨_, hst₂⟩
    have eI₃ : h₃.get? s₁.heap.objs.size = some oI := hs₃.extBut _ _ (Ne.symm hLI) eI
    have N₃ : News g' env.locals h₃ ((s₁.heap.objs.size, oI) :: news') := fun p hp => by
      rcases List.mem_cons.mp hp with rfl | hp
      · exact ⟨eI₃, Ne.symm hLI, hI₀⟩
      · exact (N₂.set hs₃) p hp
    refine wpAny_passesOwn hE (wpAny_mono (turn g' i tv m' news' _ oI h₃ _ hG' hlt J' (by rw [Int.zero_add] at F₃; exact F₃) N₃ off) (fun f s₄ h₄ => ?_) fun _ _ e => e)
    obtain ⟨rfl, g₄, h₄, tk₄, m₄, news₄, hG₄, rfl, F₄, N₄, off₄, J₄⟩ := h₄
    have e4 := (N₄ (s₁.heap.objs.size, oI) List.mem_cons_self)
    refine ⟨n + 1 - (i + 1), by first | lia | omega, g₄, h₄, tk₄, i + 1, m₄, news₄, hG₄, rfl, hlt, rfl, ?_, F₄, fun p hp => N₄ p (List.mem_cons_of_mem _ hp), off₄, e4.2.2, J₄⟩
    have q : h₂.get? s₁.heap.objs.size = some _ := hst₂
    show h₄.get? s₁.heap.objs.size = some _
    rw [e4.1]
    show some oI = _
    rw [← eI]; exact q
  · obtain rfl : i = n := Nat.le_antisymm hi (Nat.not_lt.mp hlt)
    refine W.done _ _ _ hst fun h₂ tk₂ hk₂ => wpAny_execs_nil ?_
    exact done g' h₂ tk₂ m' news' hG' (fr_but F' hk₂ hLI hI₀) (news_but N' hk₂ off) J'
theorem fm_mem {env : Env} {outer : List Env} {L b : Addr} (hf : env.frame = some L) (hm : b ∈ (env :: outer).filterMap (·.frame)) : b = L ∨ b ∈ outer.filterMap (·.frame) := by
  obtain ⟨e, he, q⟩ := List.mem_filterMap.mp hm
  rcases List.mem_cons.mp he with rfl | he
  · rw [hf] at q; exact .inl (Option.some.inj q).symm
  · exact .inr (List.mem_filterMap.mpr ⟨e, he, q⟩)
/-- the way back out of a def whose ground may have turned -/
def LeaveT (fs : List Addr) (G : Heap → Prop) (L : Addr) (m : Str → Option Value) (g : Heap) (R : Result → Shared → Prop) (v : Value) (s' : Shared) : Prop :=
  ∃ g' L' m' news', KtsTurn fs g g' ∧ Fr g' L' s'.heap m' ∧ News g' L' s'.heap news' ∧ ∀ h₀', G h₀' → Fr h₀' L s'.heap m → News h₀' L s'.heap news' → R (.ok (.ret v)) s'
section
variable {prog : Program} {w : World} {A₀ A : Around} {s : Shared} {base h₀ : Heap} {env : Env} {outer : List Env} {L : Addr} {m : Str → Option Value} {news : List (Addr × Obj)} {K : Frag} {p : Program} {loose : List Str} {mean : ExcName → Option Value} {mg mb : Str → Option Value}
    {R : Result → Shared → Prop} {name qual : Str} {params : Arguments} {body : List Stmt} {scope : Scope} {dV kV doc pm cdv ct oc : Value} {an od : Option Addr} {osl : Array (Option Value)} {f : Addr} {args : Args} {binds : List (Str × Value)}
theorem code_defT (B : Below A₀ base outer h₀) (F : Fr h₀ L s.heap m) (X₀ : K.In h₀) (N : News h₀ L s.heap news) (T : Top p loose mean mg mb h₀) (XB : K.In base) (TB : Top p loose mean mg mb base) (D : KtsDicts (outer.filterMap (·.frame)) h₀)
    (hA : A.frames = some (env :: outer)) (hf : env.frame = some L) (hke : env.scope.kind = .function)
    (ho : K.lookup f = some ⟨oc, od, .func (fnOf name qual params body scope dV kV doc pm an cdv ct), osl⟩) (hcd : codeIn K cdv qual = true) (hroom : A.depth < recursionLimit)
    (hbind : BindsTo s (fnOf name qual params body scope dV kV doc pm an cdv ct) args binds) (hloc : ∀ y ∈ binds, scope.names.lookup y.1 = some .local)
    (h : ∀ g L' h₁, Fr h₀ L g m → Fr g L' h₁ (fun y => binds.reverse.lookup y) → News g L' h₁ news → Below A base (env :: outer) g → K.In g → Top p loose mean mg mb g → KtsDicts ((env :: outer).filterMap (·.frame)) g →
      wpAny (model prog w) (A.deeper (envOf qual scope L' f cdv)) (execs body (envOf qual scope L' f cdv))
        (fun fl s' => LeaveT ((env :: outer).filterMap (·.frame)) (Gr A₀ base outer K p loose mean mg mb h₀) L m g R (match fl with | .ret v => v | _ => .none) s')
        (fun e s' => wpAny (model prog w) (A.deeper (envOf qual scope L' f cdv)) (leaving (envOf qual scope L' f cdv) e) (fun _ s'' => R (.error e) s'') (fun e' s'' => R (.error e') s'') s')
        { s with heap := h₁, toks := s.toks + binds.length })
    (hco : scope.isCoroutine = false) (hgen : scope.isGenerator = false) (hk : scope.kind = .function)
    (hcell : ∀ x ∈ scope.names, x.2 ≠ .cell) : codeAny (model prog w) A (.call (.ref f) args) R s := by
  have X := X₀.keeps F.keep
  obtain ⟨FG, BG, st, _⟩ := groundX (R := R) B F N hA hf hke
  obtain ⟨oL, es, ep, hLg, hLd, hLk, hLf⟩ := id FG.ns
  refine codeAny_call_def (fd := fnOf name qual params body scope dV kV doc pm an cdv ct) (body := body) (binds := binds) hroom (X _ _ ho) rfl (T.nolimit.keeps F.keep) (codeRec_of X hcd) rfl hbind hcell hloc (fun h₁ hns hk₁ => ?_) hco hgen hk
  refine wpAny_mono (h _ s.heap.objs.size h₁ FG ⟨hns, fun b o e => hk₁ b o (of_hideAll _ e), Nat.le_of_eq (hideAll_size _ _)⟩
    (fun p hp => ⟨hk₁ _ _ (N p hp).1, Nat.ne_of_lt (Heap.lt_size (N p hp).1), hideAll_none _ (List.mem_map_of_mem hp)⟩) BG (X₀.keeps st) (T.keeps st) (fun b hb => by
      rcases fm_mem hf hb with rfl | hb
      · exact ⟨oL, es, ep, hLg, hLd⟩
      · obtain ⟨o, es', n', ho', hd'⟩ := D b hb
        exact ⟨o, es', n', st b o ho', hd'⟩)) (fun fl s' hl => ?_) fun _ _ y => y
  have nL₀ : h₀.get? L = none := kts_self F
  obtain ⟨g', L', m', news', T', F', N', k⟩ := hl
  obtain ⟨sl, hs⟩ := T'.up hLg
  obtain ⟨T₁, S₁⟩ := kts_turn_at (h := s'.heap) (fs := outer.filterMap (·.frame)) (g := h₀)
    (fun b hb => by
      obtain ⟨_, o, ho', _⟩ := B.frames.mem hb
      exact ⟨o, ho'⟩)
    (fun b o e nmem => F'.keep b o (T'.other b o (st b o e) (fun q => by
      rcases fm_mem hf q with z | z
      · rw [z, nL₀] at e
        cases e
      · exact nmem z)))
    (fun b o e hm => by
      obtain ⟨sl', hs'⟩ := T'.up (st b o e)
      exact ⟨sl', F'.keep _ _ hs'⟩)
  have B₃ : Below A₀ base outer (ktsHeap s'.heap (outer.filterMap (·.frame)) h₀) := ⟨B.stack, fun b o e => T₁.other b o (B.stays b o e) (fun hm => by
    rw [(B.frames.mem hm).1] at e
    cases e), B.frames.of_keeps fun b o e _ => by
    obtain ⟨sl', hs'⟩ := T₁.up e
    exact ⟨_, hs', rfl⟩⟩
  refine k _ ⟨T₁, B₃, XB.keeps B₃.stays, TB.keeps B₃.stays, D.turn T₁⟩ ⟨⟨_, es, ep, F'.keep _ _ hs, hLd, hLk, hLf⟩, S₁, by rw [T₁.size]; exact F.above⟩ (fun p hp => ⟨(N' p hp).1, fun q => ?_, ?_⟩)
  · have := (N' p hp).2.2; rw [q, hs] at this; cases this
  · refine T₁.none_ _ ?_
    cases q : h₀.get? p.1 with
    | none => rfl
    | some o =>
      obtain ⟨sl', hs'⟩ := T'.up (st _ _ q)
      have := (N' p hp).2.2
      rw [hs'] at this
      cases this
theorem Gr.refl {g : Heap} (B : Below A₀ base outer g) (X : K.In g) (T : Top p loose mean mg mb g) (D : KtsDicts (outer.filterMap (·.frame)) g) : Gr A₀ base outer K p loose mean mg mb g g := ⟨KtsTurn.refl, B, X, T, D⟩
theorem Gr.trans {g g₁ g₂ : Heap} (x : Gr A₀ base outer K p loose mean mg mb g g₁) (y : Gr A₀ base outer K p loose mean mg mb g₁ g₂) : Gr A₀ base outer K p loose mean mg mb g g₂ := ⟨x.turn.trans y.turn, y.below, y.here, y.top, y.dicts⟩
end
/-- what a call gives back where the ground may turn -/
abbrev MyClT (w : World) (f : Addr) (room : Nat) (news : List (Addr × Obj)) (pre : Prop) (vs : List Value) (R : (Heap → Prop) → Addr → (Str → Option Value) → Shared → (Value → Shared → Prop) → Prop) : Prop :=
  ∀ (loose : List Str) (mean : ExcName → Option Value) (mg mb : Str → Option Value) (dp un : Nat) (gd : Option (List Code)) (cn : Str) (cs : Scope) (a : Addr) (ccd : Value) (cl : List (Str × Addr)) (outer : List Env) (A₀ : Around) (base h₀ : Heap) (L : Addr) (m : Str → Option Value) (s : Shared) (Q E : Value → Shared → Prop),
    Below A₀ base outer h₀ → Fr h₀ L s.heap m → (MineH.KH w.params).In h₀ → News h₀ L s.heap news → Top MineH.vw loose mean mg mb h₀ → cs.kind = .function → (MineH.KH w.params).In base → Top MineH.vw loose mean mg mb base → KtsDicts (outer.filterMap (·.frame)) h₀ →
    pre → dp + room < recursionLimit → un + 16 * room < cLine → R (Gr A₀ base outer (MineH.KH w.params) MineH.vw loose mean mg mb h₀) L m s Q →
      wpAny (model PySem.Challenge.rw_oc0215_01.row.prog w) (ktrTop dp un gd cn cs L a ccd cl outer) (PySem.call (.ref f) vs) Q E s
end Mine
namespace Mine
open PyProof.Rows.LCg
/-- a loop over a list of the ledger, the ground may turn -/
def TurnFromL (prog : Program) (w : World) (A : Around) (E : Value → Shared → Prop) (G : Heap → Prop) (env : Env) (x : Str) (body : List Stmt) (Q : Flow → Shared → Prop) (xv : Value) (s₁ : Shared) : Prop :=
  ∃ (g : Heap) (ax : Addr) (its : Array Value) (k : Nat) (m : Str → Option Value) (news : List (Addr × Obj)) (J : Nat → (Str → Option Value) → List (Addr × Obj) → Prop), G g ∧ xv = .ref ax ∧ A.handled = none ∧ Fr g env.locals s₁.heap m ∧ News g env.locals s₁.heap news ∧ J 0 m news ∧ (∀ i m' nw, J i m' nw → (ax, listOf its k) ∈ nw) ∧
    (∀ g' i v m₁ news₁ I oI h tk, G g' → its[i]? = some v → J i m₁ news₁ → Fr g' env.locals h (fun y => if y = x then some v else m₁ y) → News g' env.locals h ((I, oI) :: news₁) → (∀ p ∈ news₁, p.1 ≠ I) →
      wpAny (model prog w) A (execs body env) (TurnStepF G env.locals I oI (J (i + 1)) s₁) E { s₁ with heap := h, toks := tk }) ∧
    ∀ g' h' tk m' news', G g' → Fr g' env.locals h' m' → News g' env.locals h' news' → J its.size m' news' → Q .next { s₁ with heap := h', toks := tk }
theorem for_turnL {prog : Program} {w : World} {A : Around} {E : Value → Shared → Prop} {Q : Flow → Shared → Prop} {s : Shared} {env : Env} {iter : Expr} {x : Str} {px pos : Pos} {body : List Stmt} (G : Heap → Prop) (hx : env.kindOf x = some .local)
    (hp : (env.scope.kind == .class || (env.scope.kind == .module && env.locals != env.globals)) = false)
    (h : wpAny (model prog w) A (eval iter env) (TurnFromL prog w A E G env x body Q) E s) (hs : ∀ x, foldedSetIterable iter env x = pure x := by intro _; rfl)
    (hE : PassesOwn (model prog w) A env E := by passes_own) : wpAny (model prog w) A (exec (.For (.Name x px) iter body [] pos) env) Q E s := by
  refine wpAny_For (wpAny_mono h (fun xv s₁ h₁ => ?_) fun _ _ e => e) hs
  obtain ⟨g, ax, its, k, m, news, J, hG, rfl, hh, F, N, hJ, hin, turn, done⟩ := h₁
  have hax := N _ (hin 0 m news hJ)
  have hl : s₁.heap.IsList ax its := ⟨_, hax.1, rfl, k, rfl⟩
  have hlt : ax < s₁.heap.objs.size := Heap.lt_size hax.1
  refine wpAny_pyIter_list hl ?_
  have up : ∀ b o, s₁.heap.get? b = some o → (s₁.heap.push { cls := .type "list_iterator", data := .fields #[.ref ax, .int 0 0] }).get? b = some o := fun b o e => Heap.get?_push_of_some _ e
  have W := Walks.list (prog := prog) (w := w) (A := A) hh s₁.heap.objs.size ax (Nat.ne_of_lt hlt) its
  have hLI : env.locals ≠ s₁.heap.objs.size := Nat.ne_of_lt F.ns.lt
  have hLx : ax ≠ env.locals := hax.2.1
  refine codeAny_forLoop (fun k' s' => ∃ g' h' tk i m' news', G g' ∧ s' = { s₁ with heap := h', toks := tk } ∧ i ≤ its.size ∧ k' = its.size + 1 - i ∧ (h'.IsListIter s₁.heap.objs.size ax i) ∧ Fr g' env.locals h' m' ∧ News g' env.locals h' news' ∧ (∀ p ∈ news', p.1 ≠ s₁.heap.objs.size) ∧ g'.get? s₁.heap.objs.size = none ∧ J i m' news') ?_ (its.size + 1)
    ⟨g, _, s₁.toks, 0, m, news, hG, rfl, Nat.zero_le _, rfl, ⟨_, Heap.get?_push_size _ rfl, rfl, rfl⟩, F.keeps up, N.grown up, fun p hp => Nat.ne_of_lt (Heap.lt_size (N p hp).1), next_is_new F, hJ⟩
  rintro k' s' ⟨g', h', tk, i, m', news', hG', rfl, hi, rfl, hst, F', N', off, hI₀, J'⟩
  have hl' : h'.IsList ax its := ⟨_, (N' _ (hin i m' news' J')).1, rfl, k, rfl⟩
  by_cases hlt : i < its.size
  · refine W.item i _ _ _ hlt ⟨hst, hl'⟩ fun v h₂ tk₂ hPv hst₂ hk₂ => ?_
    have F₂ : Fr g' env.locals h₂ m' := fr_but F' hk₂ hLI hI₀
    have N₂ : News g' env.locals h₂ news' := news_but N' hk₂ off
    refine wpAny_assign_Name (wpAny_storeName_local hx F₂.ns (fun h₃ hn₃ hs₃ => ?_) hp)
    have F₃ := F₂.set hn₃ hs₃
    obtain ⟨oI, eI, hoI⟩ := hst₂.1
    have eI₃ : h₃.get? s₁.heap.objs.size = some oI := hs₃.extBut _ _ (Ne.symm hLI) eI
    have N₃ : News g' env.locals h₃ ((s₁.heap.objs.size, oI) :: news') := fun p hp => by
      rcases List.mem_cons.mp hp with rfl | hp
      · exact ⟨eI₃, Ne.symm hLI, hI₀⟩
      · exact (N₂.set hs₃) p hp
    refine wpAny_passesOwn hE (wpAny_mono (turn g' i v m' news' _ oI h₃ _ hG' hPv J' F₃ N₃ off) (fun f s₄ h₄ => ?_) fun _ _ e => e)
    obtain ⟨rfl, g₄, h₄, tk₄, m₄, news₄, hG₄, rfl, F₄, N₄, off₄, J₄⟩ := h₄
    have e4 := (N₄ (s₁.heap.objs.size, oI) List.mem_cons_self)
    exact ⟨its.size + 1 - (i + 1), by omega, g₄, h₄, tk₄, i + 1, m₄, news₄, hG₄, rfl, hlt, rfl, ⟨oI, e4.1, hoI⟩, F₄, fun p hp => N₄ p (List.mem_cons_of_mem _ hp), off₄, e4.2.2, J₄⟩
  · obtain rfl : i = its.size := Nat.le_antisymm hi (Nat.not_lt.mp hlt)
    refine W.done _ _ _ ⟨hst, hl'⟩ fun h₂ tk₂ hk₂ => wpAny_execs_nil ?_
    exact done g' h₂ tk₂ m' news' hG' (fr_but F' hk₂ hLI hI₀) (news_but N' hk₂ off) J'
end Mine
namespace Mine
open PyProof.Rows.LCg
/-- values that stand for data, one by one -/
inductive Are {α : Type} (P : α → Value → Prop) : List Value → List α → Prop
  | nil : Are P [] []
  | cons {v : Value} {a : α} {vs : List Value} {as : List α} : P a v → Are P vs as → Are P (v :: vs) (a :: as)
section
variable {α : Type} {P : α → Value → Prop}
theorem Are.length : ∀ {vs : List Value} {as : List α}, Are P vs as → vs.length = as.length
  | _, _, .nil => rfl
  | _, _, .cons _ h => by rw [List.length_cons, List.length_cons, h.length]
theorem Are.append : ∀ {vs ws : List Value} {as bs : List α}, Are P vs as → Are P ws bs → Are P (vs ++ ws) (as ++ bs)
  | _, _, _, _, .nil, h => h
  | _, _, _, _, .cons p h, h' => .cons p (h.append h')
theorem Are.snoc {vs : List Value} {as : List α} {v : Value} {a : α} (h : Are P vs as) (p : P a v) : Are P (vs ++ [v]) (as ++ [a]) := h.append (.cons p .nil)
theorem Are.get : ∀ {vs : List Value} {as : List α}, Are P vs as → ∀ {i : Nat} {v : Value}, vs[i]? = some v → ∃ a, as[i]? = some a ∧ P a v
  | _, _, .nil, i, v, e => by cases e
  | _, _, .cons p h, 0, v, e => by cases e; exact ⟨_, rfl, p⟩
  | _, _, .cons p h, i + 1, v, e => h.get (i := i) e
theorem Are.getA {its : Array Value} {as : List α} (h : Are P its.toList as) {i : Nat} {v : Value} (e : its[i]? = some v) : ∃ a, as[i]? = some a ∧ P a v := h.get (by rw [Array.getElem?_toList]; exact e)
theorem take_snoc {as : List α} {i : Nat} {a : α} (e : as[i]? = some a) : as.take (i + 1) = as.take i ++ [a] := by rw [List.take_add_one, e]; rfl
end
theorem Are.with {α : Type} {P : α → Value → Prop} {R : α → Prop} : ∀ {vs : List Value} {as : List α}, Are P vs as → (∀ a ∈ as, R a) → Are (fun a v => P a v ∧ R a) vs as
  | _, _, .nil, _ => .nil
  | _, _, .cons p h, hr => .cons ⟨p, hr _ (.head _)⟩ (h.with fun a ha => hr a (.tail _ ha))
abbrev IsI (n : Int) (v : Value) : Prop := ∃ t, v = .int n t
abbrev IsS (l : List Nat) (v : Value) : Prop := ∃ t, v = .str (S l) t
theorem Are.ints : ∀ {vs : List Value} {ns : List Int}, Are IsI vs ns → IntsAre vs ns
  | _, _, .nil => .nil
  | _, _, .cons ⟨t, e⟩ h => by subst e; exact .cons _ t h.ints
theorem are_ints : ∀ {vs : List Value} {ns : List Int}, IntsAre vs ns → Are IsI vs ns
  | _, _, .nil => .nil
  | _, _, .cons n t h => .cons ⟨t, rfl⟩ (are_ints h)
theorem Are.strs : ∀ {vs : List Value} {xs : List (List Nat)}, Are IsS vs xs → StrsAre vs (xs.map S)
  | _, _, .nil => .nil
  | _, _, .cons ⟨t, e⟩ h => by subst e; exact .cons _ t h.strs
section
variable {prog : Program} {w : World} {A : Around} {h₀ : Heap} {L : Addr} {m : Str → Option Value} {env : Env} {scope : Scope} {cl : List (Str × Addr)} {elt iter2 : Expr} {x y z : Str} {Q : Flow → Shared → Prop} {s₁ : Shared} {news : List (Addr × Obj)}
/-- what the second clause's iterable must show -/
def InnerAt {β : Type} (h₀ : Heap) (L : Addr) (m : Str → Option Value) (s : Shared) (I : Addr) (oI : Obj) (C : Addr) (oC : Obj) (D : Addr) (ys : List Value) (news : List (Addr × Obj)) (P2 : β → Value → Prop) (bs : List β) (xv : Value) (s' : Shared) : Prop :=
  ∃ ax2 its2 extra h' tk', xv = .ref ax2 ∧ s' = { s with heap := h', toks := tk' } ∧ Fr h₀ L h' m ∧ News h₀ L h' ((I, oI) :: (C, oC) :: (D, lst ys) :: (extra ++ news)) ∧ Off3 I C D extra ∧ Src2 h₀ ax2 its2 (extra ++ news) ∧ Are P2 its2.toList bs
def TestAt (prog : Program) (w : World) (A : Around) (E' : Value → Shared → Prop) (h₀ : Heap) (L : Addr) (m : Str → Option Value) (cenv : Env) (elt : Expr) (s : Shared) (led : List (Addr × Obj)) (b : Bool) (P : Value → Prop) (ok : Bool) (s' : Shared) : Prop :=
  ok = b ∧ if ok = true then wpAny (model prog w) A (eval elt cenv) (Stay h₀ L m s led P) E' s' else Stay h₀ L m s led (fun _ => True) Value.none s'
/-- a nested comprehension makes every pair's value -/
theorem nest_from {α β γ : Type} {P1 : α → Value → Prop} {P2 : β → Value → Prop} {P3 : γ → Value → Prop} {ax : Addr} {its : Array Value} {as : List α} (bs : List β) (f : α → β → γ)
    (hh : A.handled = none) (F : Fr h₀ L s₁.heap m) (N : News h₀ L s₁.heap news) (S : SrcAt h₀ ax its news) (A1 : Are P1 its.toList as) (hb : as.length * bs.length ≤ 100000)
    (inner : ∀ (s : Shared) I oI C oC D m₂ ys h tk (E' : Value → Shared → Prop), NsObj oC m₂ → Fr h₀ L h m → News h₀ L h ((I, oI) :: (C, oC) :: (D, lst ys) :: news) → Off3 I C D news →
      wpAny (model prog w) A (eval iter2 (compEnvC scope cl C env)) (InnerAt h₀ L m s I oI C oC D ys news P2 bs) E' { s with heap := h, toks := tk })
    (each : ∀ (s : Shared) a b v u I oI C oC m' h tk rest (E' : Value → Shared → Prop), P1 a v → P2 b u → NsObj oC m' → m' x = some v → m' y = some u → Fr h₀ L h m → News h₀ L h ((I, oI) :: (C, oC) :: rest) →
      wpAny (model prog w) A (eval elt (compEnvC scope cl C env)) (Stay h₀ L m s ((I, oI) :: (C, oC) :: rest) (P3 (f a b))) E' { s with heap := h, toks := tk })
    (fin : ∀ g ys, Are P3 ys (as.flatMap fun a => bs.map (f a)) → FinA h₀ L m { s₁ with heap := g } z Q ys news) :
    NestFrom prog w A h₀ L m env scope cl elt iter2 x y z Q (.ref ax) s₁ := by
  refine ⟨ax, its, news, fun i ys => i ≤ as.length ∧ Are P3 ys ((as.take i).flatMap fun a => bs.map (f a)), rfl, hh, F, N, S, ⟨Nat.zero_le _, by simpa using Are.nil⟩, fun g => ?_, fun g ys hJ => ?_⟩
  · intro i v ys I oI C oC D m₂ h tk E' hv hJ hC hx F' N' off ne
    obtain ⟨a, ha, hP⟩ := A1.getA hv
    have hi : i < as.length := by
      rcases Nat.lt_or_ge i as.length with q | q
      · exact q
      · rw [List.getElem?_eq_none q] at ha; cases ha
    refine wpAny_mono (inner { s₁ with heap := g } I oI C oC D m₂ ys h tk E' hC F' N' off) (fun xv s' h' => ?_) fun _ _ e => e
    obtain ⟨ax2, its2, extra, h', tk', rfl, rfl, F2, N2, off2, S2, A2⟩ := h'
    have hsz : its2.size = bs.length := by rw [← A2.length]; simp
    have hlen : ∀ k, (((as.take k).flatMap fun a => bs.map (f a))).length = min k as.length * bs.length := fun k => by
      rw [List.length_flatMap]
      simp only [List.length_map]
      rw [List.map_const', List.sum_replicate_nat, List.length_take]
    refine ⟨ax2, its2, extra, h', tk', rfl, rfl, F2, N2, off2, S2, fun j ys' => j ≤ bs.length ∧ Are P3 ys' (((as.take i).flatMap fun a => bs.map (f a)) ++ (bs.take j).map (f a)), ⟨Nat.zero_le _, by simpa using hJ.2⟩, fun ys' hJ2 => ⟨hi, ?_⟩, fun j ys' hJ2 => ?_, ?_⟩
    · have h2 := hJ2.2
      rw [hsz, List.take_length] at h2
      rw [take_snoc ha, List.flatMap_append]
      simpa using h2
    · have := hJ2.2.length
      rw [List.length_append, hlen, List.length_map, List.length_take] at this
      have h1 : min i as.length * bs.length ≤ as.length * bs.length := Nat.mul_le_mul_right _ (Nat.min_le_right _ _)
      have h2 : (i + 1) * bs.length ≤ as.length * bs.length := Nat.mul_le_mul_right _ hi
      rw [Nat.succ_mul] at h2
      have h3 : min i as.length = i := Nat.min_eq_left (Nat.le_of_lt hi)
      rw [h3] at this
      rw [sizeLine_eq, this]
      have h4 : min j bs.length ≤ bs.length := Nat.min_le_right _ _
      first | lia | omega
    · intro j u ys' I2 oI2 oC' m' h tk E'' hu hJ2 hC' hx' hy' F3 N3
      obtain ⟨b, hb', hP2⟩ := A2.getA hu
      have hj : j < bs.length := by
        rcases Nat.lt_or_ge j bs.length with q | q
        · exact q
        · rw [List.getElem?_eq_none q] at hb'; cases hb'
      refine wpAny_mono (each { s₁ with heap := g } a b v u I2 oI2 C oC' m' h tk _ E'' hP hP2 hC' hx' hy' F3 N3) (fun yv s' hs => ?_) fun _ _ e => e
      obtain ⟨h', tk', rfl, F4, N4, hy4⟩ := hs
      refine ⟨h', tk', rfl, F4, N4, hj, ?_⟩
      rw [take_snoc hb', List.map_append, ← List.append_assoc]
      exact hJ2.2.snoc hy4
  · have := hJ.2
    have hs : its.size = as.length := by rw [← A1.length]; simp
    rw [hs, List.take_length] at this
    exact fin g ys this
/-- a comprehension of one clause -/
theorem one_from {α γ : Type} {P1 : α → Value → Prop} {P3 : γ → Value → Prop} {ax : Addr} {its : Array Value} {k : Nat} {as : List α} (f : α → γ) {Fin : Shared → List Value → List (Addr × Obj) → Prop}
    (hh : A.handled = none) (F : Fr h₀ L s₁.heap m) (N : News h₀ L s₁.heap news) (hm : (ax, ({ cls := .type "list", data := .seq its k } : Obj)) ∈ news) (A1 : Are P1 its.toList as) (hb : as.length ≤ 100000)
    (each : ∀ (s : Shared) a v ys I oI C oC D m₂ h tk (E' : Value → Shared → Prop), P1 a v → NsObj oC m₂ → m₂ x = some v → Fr h₀ L h m → News h₀ L h ((I, oI) :: (C, oC) :: (D, lst ys) :: news) →
      wpAny (model prog w) A (eval elt (compEnvC scope cl C env)) (Stay h₀ L m s ((I, oI) :: (C, oC) :: (D, lst ys) :: news) (P3 (f a))) E' { s with heap := h, toks := tk })
    (fin : ∀ g ys, Are P3 ys (as.map f) → Fin { s₁ with heap := g } ys news) :
    CompSrc prog w A h₀ L m env elt x scope cl Fin (.ref ax) s₁ := by
  have hs : its.size = as.length := by rw [← A1.length]; simp
  refine CompSrc.ledger hh F N hm (by rw [hs, sizeLine_eq]; first | lia | omega) fun g => ?_
  refine one_rest (fun i ys => i ≤ as.length ∧ Are P3 ys ((as.take i).map f)) (.inr ⟨_, hm, rfl, _, rfl⟩) ?_ (fun ys hJ => fin g ys (by have := hJ.2; rw [hs, List.take_length] at this; exact this)) its.size 0 [] (Nat.zero_add _) ⟨Nat.zero_le _, by simpa using Are.nil⟩
  intro i v ys I oI C oC D m₂ h tk E' hv hJ hC hx F' N' off ne
  obtain ⟨a, ha, hP⟩ := A1.getA hv
  have hi : i < as.length := by
    rcases Nat.lt_or_ge i as.length with q | q
    · exact q
    · rw [List.getElem?_eq_none q] at ha; cases ha
  refine wpAny_mono (each { s₁ with heap := g } a v ys I oI C oC D m₂ h tk E' hP hC hx F' N') (fun yv s' hs => ?_) fun _ _ e => e
  obtain ⟨h', tk', rfl, F4, N4, hy4⟩ := hs
  refine ⟨h', tk', rfl, F4, N4, hi, ?_⟩
  rw [take_snoc ha, List.map_append]
  exact hJ.2.snoc hy4
/-- a comprehension of one clause that tests its items and hands them on -/
theorem one_fromT {α : Type} {ct : Expr} {P1 : α → Value → Prop} {ax : Addr} {its : Array Value} {k : Nat} {as : List α} (p : α → Bool) {Fin : Shared → List Value → List (Addr × Obj) → Prop}
    (hh : A.handled = none) (F : Fr h₀ L s₁.heap m) (N : News h₀ L s₁.heap news) (hm : (ax, ({ cls := .type "list", data := .seq its k } : Obj)) ∈ news) (A1 : Are P1 its.toList as) (hb : as.length ≤ 100000)
    (each : ∀ (s : Shared) a v ys I oI C oC D m₂ h tk (E' : Value → Shared → Prop), a ∈ as → P1 a v → NsObj oC m₂ → m₂ x = some v → Fr h₀ L h m → News h₀ L h ((I, oI) :: (C, oC) :: (D, lst ys) :: news) →
      wpAny (model prog w) A (isTrue ct (compEnvC scope cl C env) (eval ct (compEnvC scope cl C env))) (TestAt prog w A E' h₀ L m (compEnvC scope cl C env) elt s ((I, oI) :: (C, oC) :: (D, lst ys) :: news) (p a) (P1 a)) E' { s with heap := h, toks := tk })
    (fin : ∀ g ys, Are P1 ys (as.filter p) → Fin { s₁ with heap := g } ys news) :
    LCt.CompSrcT prog w A h₀ L m env ct elt x scope cl Fin (.ref ax) s₁ := by
  have hs : its.size = as.length := by rw [← A1.length]; simp
  refine LCt.CompSrcT.ledger hh F N hm (by rw [hs, sizeLine_eq]; first | lia | omega) fun g => ?_
  refine one_restT (fun i ys => i ≤ as.length ∧ Are P1 ys ((as.take i).filter p)) (.inr ⟨_, hm, rfl, _, rfl⟩) ?_ (fun ys hJ => fin g ys (by have := hJ.2; rw [hs, List.take_length] at this; exact this)) its.size 0 [] (Nat.zero_add _) ⟨Nat.zero_le _, by simpa using Are.nil⟩
  intro i v ys I oI C oC D m₂ h tk E' hv hJ hC hx F' N' off ne
  obtain ⟨a, ha, hP⟩ := A1.getA hv
  have hi : i < as.length := by
    rcases Nat.lt_or_ge i as.length with q | q
    · exact q
    · rw [List.getElem?_eq_none q] at ha; cases ha
  refine wpAny_mono (each { s₁ with heap := g } a v ys I oI C oC D m₂ h tk E' (List.mem_of_getElem? ha) hP hC hx F' N') (fun ok s' hs => ?_) fun _ _ e => e
  obtain ⟨hok, hs⟩ := hs
  cases ok with
  | true =>
    simp only [if_true] at hs ⊢
    refine wpAny_mono hs (fun yv s' hs => ?_) fun _ _ e => e
    obtain ⟨h', tk', rfl, F4, N4, hy4⟩ := hs
    refine ⟨h', tk', rfl, F4, N4, hi, ?_⟩
    rw [take_snoc ha, List.filter_append]
    have e : [a].filter p = [a] := by rw [List.filter_cons, ← hok]; rfl
    rw [e]
    exact hJ.2.snoc hy4
  | false =>
    simp only [Bool.false_eq_true, if_false] at hs ⊢
    obtain ⟨h', tk', rfl, F4, N4, _⟩ := hs
    refine ⟨h', tk', rfl, F4, N4, hi, ?_⟩
    rw [take_snoc ha, List.filter_append]
    have e : [a].filter p = [] := by rw [List.filter_cons, ← hok]; rfl
    rw [e, List.append_nil]
    exact hJ.2
theorem inner_tup {β : Type} {P2 : β → Value → Prop} {bs : List β} {s : Shared} {I C D T : Nat} {oI oC : Obj} {ys : List Value} {vs : Array Value} {h' : Heap} {tk : Nat} (F : Fr h₀ L h' m) (N : News h₀ L h' ((T, { cls := .type "tuple", data := .seq vs }) :: (I, oI) :: (C, oC) :: (D, lst ys) :: news))
    (hI : I < T) (hC : C < T) (hD : D < T) (Av : Are P2 vs.toList bs) : InnerAt h₀ L m s I oI C oC D ys news P2 bs (.ref T) { s with heap := h', toks := tk } :=
  ⟨T, vs, [(T, { cls := .type "tuple", data := .seq vs })], h', tk, rfl, rfl, F, fun p hp => N p (by
    rcases List.mem_cons.mp hp with rfl | hp
    · exact .tail _ (.head _)
    · rcases List.mem_cons.mp hp with rfl | hp
      · exact .tail _ (.tail _ (.head _))
      · rcases List.mem_cons.mp hp with rfl | hp
        · exact .tail _ (.tail _ (.tail _ (.head _)))
        · rcases List.mem_cons.mp hp with rfl | hp
          · exact .head _
          · exact .tail _ (.tail _ (.tail _ (.tail _ hp)))), ⟨⟨Nat.ne_of_gt hI, Nat.ne_of_gt hC, Nat.ne_of_gt hD⟩, trivial⟩, .inr ⟨_, .head _, rfl, _, rfl⟩, Av⟩
theorem off1_mem {D : Addr} : ∀ {l : List (Addr × Obj)}, Off1 D l → ∀ p ∈ l, p.1 ≠ D
  | [], _, _, h => nomatch h
  | _ :: _, x, p, h => by
    rcases List.mem_cons.mp h with rfl | h
    · exact x.1
    · exact off1_mem x.2 p h
end
end Mine
namespace Mine
theorem w1_Fn : True := by
  k_with_none
  (k_with "k_room" => first | exact Nat.le_of_ble_eq_true rfl | exact rm (b := 1) hdp (by decide) | exact rm (b := 2) hdp (by decide) | exact rm (b := 3) hdp (by decide) | exact rm (b := 4) hdp (by decide) | exact rm (b := 5) hdp (by decide) | exact rm (b := 6) hdp (by decide) | exact rm (b := 7) hdp (by decide) | exact rm (b := 8) hdp (by decide) | exact rm (b := 9) hdp (by decide) | exact rm (b := 10) hdp (by decide) | exact rm (b := 11) hdp (by decide) | exact rm (b := 12) hdp (by decide) | exact rm (b := 13) hdp (by decide) | exact rm (b := 14) hdp (by decide) | exact rm (b := 15) hdp (by decide) | exact rm (b := 16) hdp (by decide) | exact rm (b := 17) hdp (by decide) | exact rm (b := 18) hdp (by decide) | exact rm (b := 19) hdp (by decide) | exact rm (b := 20) hdp (by decide) | exact rm (b := 21) hdp (by decide) | exact rm (b := 22) hdp (by decide) | exact rm (b := 23) hdp (by decide) | exact rm (b := 24) hdp (by decide) | exact rm (b := 25) hdp (by decide) | exact rm (b := 1) hu (by decide) | exact rm (b := 3) hu (by decide) | exact rm (b := 4) hu (by decide) | exact rm (b := 7) hu (by decide) | exact rm (b := 19) hu (by decide) | exact rm (b := 23) hu (by decide) | exact rm (b := 35) hu (by decide) | exact rm (b := 39) hu (by decide) | exact rm (b := 51) hu (by decide) | exact rm (b := 55) hu (by decide) | exact rm (b := 64) hu (by decide) | exact rm (b := 67) hu (by decide) | exact rm (b := 71) hu (by decide) | exact rm (b := 83) hu (by decide) | exact rm (b := 87) hu (by decide) | exact rm (b := 99) hu (by decide) | exact rm (b := 103) hu (by decide) | exact rm (b := 115) hu (by decide) | exact rm (b := 119) hu (by decide) | exact rm (b := 131) hu (by decide) | exact rm (b := 135) hu (by decide) | exact rm (b := 147) hu (by decide) | exact rm (b := 151) hu (by decide) | exact rm (b := 163) hu (by decide) | exact rm (b := 167) hu (by decide) | exact rm (b := 179) hu (by decide) | exact rm (b := 183) hu (by decide) | exact rm (b := 195) hu (by decide) | exact rm (b := 199) hu (by decide) | exact rm (b := 211) hu (by decide) | exact rm (b := 215) hu (by decide) | exact rm (b := 227) hu (by decide) | exact rm (b := 231) hu (by decide) | exact rm (b := 243) hu (by decide) | exact rm (b := 247) hu (by decide) | exact rm (b := 259) hu (by decide) | exact rm (b := 263) hu (by decide) | exact rm (b := 275) hu (by decide) | exact rm (b := 279) hu (by decide) | exact rm (b := 291) hu (by decide) | exact rm (b := 295) hu (by decide) | exact rm (b := 307) hu (by decide) | exact rm (b := 311) hu (by decide) | exact rm (b := 323) hu (by decide) | exact rm (b := 327) hu (by decide) | exact rm (b := 339) hu (by decide) | exact rm (b := 343) hu (by decide) | exact rm (b := 355) hu (by decide) | exact rm (b := 371) hu (by decide) | exact rm (b := 387) hu (by decide) | ktr_room | ktr_units)
  (k_with "execs cons" => (k_here; k_fold))
  (k_with "execs cons" => (k_here; refine gen_tk ?_; intro tk8))
  (k_with "eval Constant str" => (k_here; refine const_str ?_; intro t8 tk8))
  (k_with "eval Constant int" => (k_here; refine const_int ?_; intro t8 tk8))
  trivial
theorem S_item (c : Nat) (r : List Nat) : Txt.item (S (c :: r)) 0 = S [c] := item_meets (by decide) rfl
theorem S_dot (c : Nat) : (S [c] == Str.ofString ".") = (c == 46) := by
  have e : Str.ofString "." = S [46] := by decide +kernel
  rw [e, Bool.eq_iff_iff, beq_iff_eq, beq_iff_eq]
  constructor
  · intro h; injection h with h; simpa using h
  · rintro rfl; rfl
theorem S_tail (c : Nat) (r : List Nat) : Txt.slice (S (c :: r)) (some 1) none = S r := by
  rw [slice_tail _ (by show 1 ≤ (c :: r).length; simp)]
  congr 1
  apply Array.ext'
  simp
theorem word_c (w : World) (news : List (Addr × Obj)) (c : Nat) (r : List Nat) (t : Tok) : MyCl w 776 8 news (r.length ≤ 10000) [Value.str (S (c :: r)) t] (rStr news (S (wordF (c :: r)))) := by
  dsimp only [MyCl, rStr]; k_fill; intros; rename_i hdp hu hret
  have hl : (S (c :: r)).length = r.length + 1 := rfl
  refine wpAny_call ?_
  k_dflt cell_enter
  refine let_A ?_
  intro A1
  k_steps
  · rename_i q _ _ _ _ _ _ _ _ _ _
    rw [S_tail]
    have hc : c = 46 := by rw [S_item, S_dot] at q; simpa using q
    subst hc
    exact hret _ _ _ (by k_asm) (by k_asm)
  · rename_i q _ _ _ _
    have hc : c ≠ 46 := by rw [S_item, S_dot] at q; simpa using q
    have e : wordF (c :: r) = c :: r := by unfold wordF; rw [if_neg (by simpa using hc)]
    rw [e] at hret
    exact hret _ _ _ (by k_asm) (by k_asm)
section
variable {prog : Program} {w : World} {A : Around} {E : Value → Shared → Prop} {s : Shared} {x y : Str} {t u : Tok} {b : Bool} {Q : Value → Shared → Prop}
theorem beq_is (e : (x == y) = b) (h : Q (.bool b) s) : wpAny (model prog w) A (compareOp .Eq (.str x t) (.str y u)) Q E s := P.eq_str (by
  have : (x.cps.toList == y.cps.toList) = (x == y) := by
    rw [Bool.eq_iff_iff, beq_iff_eq, beq_iff_eq]
    constructor
    · intro h; cases x; cases y; congr 1; exact Array.ext' h
    · rintro rfl; rfl
  rw [this, e]; exact h)
theorem in_isS (e : Txt.contains x y = b) (h : Q (.bool b) s) : wpAny (model prog w) A (compareOp .In (.str y u) (.str x t)) Q E s := SB.contains (by rw [e]; exact h)
end
theorem contains_crlfS (d : Nat) : Txt.contains (Str.ofString "\r\n") (S [d]) = isEnd d := by
  have := contains_ch (Str.ofString "\r\n") d
  rw [show S [d] = ch1 d from rfl, this]
  have e : (Str.ofString "\r\n").cps.toList = [13, 10] := by decide +kernel
  rw [e]
  by_cases h : d = 10
  · subst h; rfl
  · by_cases h' : d = 13
    · subst h'; rfl
    · simp [isEnd, h, h']
theorem fold_crlf : ∀ (k : Nat) (acc : Array Nat), ((List.replicate k #[13, 10]).foldl (· ++ ·) acc).toList = acc.toList ++ crlfs k
  | 0, acc => by simp [crlfs]
  | k + 1, acc => by
    rw [List.replicate_succ, List.foldl_cons, fold_crlf k]
    simp [crlfs]
theorem mul_crlf (n : Nat) : Txt.mul (Str.ofString "\r\n") (n : Int) = S (crlfs n) := by
  have e0 : Str.ofString "\r\n" = S [13, 10] := by decide +kernel
  rw [e0]
  unfold Txt.mul
  by_cases h1 : (n : Int) < 1
  · have : n = 0 := by first | lia | omega
    subst this; rfl
  · rw [if_neg h1]
    by_cases h2 : n = 1
    · subst h2; rfl
    · have e : ((n : Int) == 1 || (S [13, 10]).length == 0) = false := by
        have a1 : ((n : Int) == 1) = false := by simp; first | lia | omega
        rw [a1]; rfl
      rw [e, if_neg Bool.false_ne_true]
      congr 1
      apply Array.ext'
      rw [Int.toNat_natCast]
      show ((List.replicate n #[13, 10]).foldl (· ++ ·) #[]).toList = _
      rw [fold_crlf]; rfl
theorem slice_head (l : List Nat) : Txt.slice (S l) none (some 1) = S (l.take 1) := by
  cases l with
  | nil => decide +kernel
  | cons c r =>
    have h := slice_nat (S (c :: r)) (a := 0) (b := 1) (by first | lia | omega) (by show 1 ≤ (c :: r).length; simp)
    have e : Txt.slice (S (c :: r)) none (some 1) = Txt.slice (S (c :: r)) (some ((0 : Nat) : Int)) (some ((1 : Nat) : Int)) := by
      have e : PySem.Builtin.Str.strSliceIndices none (some (1 : Int)) 1 (S (c :: r)).length = PySem.Builtin.Str.strSliceIndices (some ((0 : Nat) : Int)) (some ((1 : Nat) : Int)) 1 (S (c :: r)).length := by
        show PySem.sliceRange 0 _ 1 = PySem.sliceRange (max (0 : Int) (min (if ((0 : Nat) : Int) < 0 then ((0 : Nat) : Int) + (((c :: r).length : Nat) : Int) else ((0 : Nat) : Int)) (((c :: r).length : Nat) : Int))) _ 1
        have m2 : max (0 : Int) (min (if ((0 : Nat) : Int) < 0 then ((0 : Nat) : Int) + (((c :: r).length : Nat) : Int) else ((0 : Nat) : Int)) (((c :: r).length : Nat) : Int)) = 0 := by rw [if_neg (by first | lia | omega)]; first | lia | omega
        rw [m2]
        rfl
      unfold Txt.slice
      rw [e]
    rw [e, h]
    congr 1
    apply Array.ext'
    simp
theorem head_dot (l : List Nat) : (Txt.slice (S l) none (some 1) == Str.ofString ".") = true ↔ l.head? = some 46 := by
  rw [slice_head]
  cases l with
  | nil => decide +kernel
  | cons c r => rw [show (c :: r).take 1 = [c] from rfl, S_dot]; simp
section
theorem w2_Fn : True := by
  (k_with "compareOp Eq str str" => (k_here; refine' beq_is ?e ?_; (case e => first | with_reducible assumption | exact (show _ = true by decide +kernel) | exact (show _ = false by decide +kernel))))
  (k_with "compareOp In str str" => (k_here; refine' in_isS ?e ?_; (case e => first | with_reducible assumption | exact (show _ = true by decide +kernel) | exact (show _ = false by decide +kernel))))
  (k_with "call ref" => (k_here; (with_reducible show wpAny _ _ (PySem.call (Value.ref 776) [Value.str _ _]) _ _ _); (k_dflt (refine' word_c _ _ _ _ _ _ _ _ _ _ _ _ _ _ _ _ _ _ _ _ _ _ _ _ _ _ ?k1 ?k2 ?k3 ?k4 ?k5 ?kK ?kp ?kd ?ku ?_; (case k1 => k_asm); (case k2 => k_asm); (case k3 => k_asm); (case k4 => k_asm); (case k5 => k_asm); (case kK => exact rfl); (case kp => first | lia | omega); (case kd => k_room); (case ku => k_room); intro t9 h9 tk9 F9 N9; (try dsimp only); (try k_fold)))))
  trivial
theorem sent_c (w : World) (news : List (Addr × Obj)) (c : Nat) (r : List Nat) (t : Tok) : MyCl w 783 12 news (r.length ≤ 1000) [Value.str (S (c :: r)) t] (rStr news (S (sentF (c :: r)))) := by
  dsimp only [MyCl, rStr]; k_fill; intros; rename_i hdp hu hret
  have hl : (S (c :: r)).length = r.length + 1 := rfl
  have hlw : (S (wordF (c :: r))).length ≤ r.length + 1 := wordF_len (c :: r)
  have q1 : Txt.contains (Str.ofString "\r\n") (Txt.item (S (c :: r)) 0) = isEnd c := by rw [S_item, contains_crlfS]
  refine wpAny_call ?_
  k_dflt cell_enter
  refine let_A ?_
  intro A1
  cases hc : isEnd c with
  | true =>
    rw [hc] at q1
    k_steps
    have e : S (sentF (c :: r)) = Txt.mul (Str.ofString "\r\n") (((S (c :: r)).length : Int).fdiv 2) := by
      have : (((S (c :: r)).length : Nat) : Int).fdiv 2 = (((c :: r).length / 2 : Nat) : Int) := by
        show (((c :: r).length : Nat) : Int).fdiv 2 = _
        rw [Int.fdiv_eq_ediv_of_nonneg _ (by decide)]; rfl
      rw [this, mul_crlf, sentF, if_pos (by exact hc)]
    rw [← e]
    exact hret _ _ _ (by k_asm) (by k_asm)
  | false =>
    rw [hc] at q1
    have e0 : sentF (c :: r) = if (wordF (c :: r)).head? = some 46 then 46 :: wordF (c :: r) else wordF (c :: r) := by rw [sentF, if_neg (by show ¬ isEnd c = true; rw [hc]; simp)]
    cases hq : (Txt.slice (S (wordF (c :: r))) none (some 1) == Str.ofString ".") with
    | true =>
      k_steps
      rw [if_pos ((head_dot _).mp hq)] at e0
      have e1 : Str.ofString "." ++ S (wordF (c :: r)) = S (46 :: wordF (c :: r)) := by
        have : Str.ofString "." = S [46] := by decide +kernel
        rw [this]
        show (⟨#[46] ++ (wordF (c :: r)).toArray⟩ : Str) = _
        congr 1
        apply Array.ext'
        simp
      rw [e0] at hret
      rw [e1]
      exact hret _ _ _ (by k_asm) (by k_asm)
    | false =>
      k_steps
      rw [if_neg (fun q => by rw [(head_dot _).mpr q] at hq; cases hq)] at e0
      rw [e0] at hret
      exact hret _ _ _ (by k_asm) (by k_asm)
end
theorem w3_Fn : True := by
  k_with_none
  (k_with "k_room" => first | exact Nat.le_of_ble_eq_true rfl | exact rm (b := 1) hdp (by decide) | exact rm (b := 2) hdp (by decide) | exact rm (b := 3) hdp (by decide) | exact rm (b := 4) hdp (by decide) | exact rm (b := 5) hdp (by decide) | exact rm (b := 6) hdp (by decide) | exact rm (b := 7) hdp (by decide) | exact rm (b := 8) hdp (by decide) | exact rm (b := 9) hdp (by decide) | exact rm (b := 10) hdp (by decide) | exact rm (b := 11) hdp (by decide) | exact rm (b := 12) hdp (by decide) | exact rm (b := 13) hdp (by decide) | exact rm (b := 14) hdp (by decide) | exact rm (b := 15) hdp (by decide) | exact rm (b := 16) hdp (by decide) | exact rm (b := 17) hdp (by decide) | exact rm (b := 18) hdp (by decide) | exact rm (b := 19) hdp (by decide) | exact rm (b := 20) hdp (by decide) | exact rm (b := 21) hdp (by decide) | exact rm (b := 22) hdp (by decide) | exact rm (b := 23) hdp (by decide) | exact rm (b := 24) hdp (by decide) | exact rm (b := 25) hdp (by decide) | exact rm (b := 1) hu (by decide) | exact rm (b := 3) hu (by decide) | exact rm (b := 4) hu (by decide) | exact rm (b := 7) hu (by decide) | exact rm (b := 19) hu (by decide) | exact rm (b := 23) hu (by decide) | exact rm (b := 35) hu (by decide) | exact rm (b := 39) hu (by decide) | exact rm (b := 51) hu (by decide) | exact rm (b := 55) hu (by decide) | exact rm (b := 64) hu (by decide) | exact rm (b := 67) hu (by decide) | exact rm (b := 71) hu (by decide) | exact rm (b := 83) hu (by decide) | exact rm (b := 87) hu (by decide) | exact rm (b := 99) hu (by decide) | exact rm (b := 103) hu (by decide) | exact rm (b := 115) hu (by decide) | exact rm (b := 119) hu (by decide) | exact rm (b := 131) hu (by decide) | exact rm (b := 135) hu (by decide) | exact rm (b := 147) hu (by decide) | exact rm (b := 151) hu (by decide) | exact rm (b := 163) hu (by decide) | exact rm (b := 167) hu (by decide) | exact rm (b := 179) hu (by decide) | exact rm (b := 183) hu (by decide) | exact rm (b := 195) hu (by decide) | exact rm (b := 199) hu (by decide) | exact rm (b := 211) hu (by decide) | exact rm (b := 215) hu (by decide) | exact rm (b := 227) hu (by decide) | exact rm (b := 231) hu (by decide) | exact rm (b := 243) hu (by decide) | exact rm (b := 247) hu (by decide) | exact rm (b := 259) hu (by decide) | exact rm (b := 263) hu (by decide) | exact rm (b := 275) hu (by decide) | exact rm (b := 279) hu (by decide) | exact rm (b := 291) hu (by decide) | exact rm (b := 295) hu (by decide) | exact rm (b := 307) hu (by decide) | exact rm (b := 311) hu (by decide) | exact rm (b := 323) hu (by decide) | exact rm (b := 327) hu (by decide) | exact rm (b := 339) hu (by decide) | exact rm (b := 343) hu (by decide) | exact rm (b := 355) hu (by decide) | exact rm (b := 371) hu (by decide) | exact rm (b := 387) hu (by decide) | ktr_room | ktr_units)
  (k_with "execs cons" => (k_here; k_fold))
  (k_with "execs cons" => (k_here; refine gen_tk ?_; intro tk8))
  (k_with "eval Constant str" => (k_here; refine const_str ?_; intro t8 tk8))
  (k_with "eval Constant int" => (k_here; refine const_int ?_; intro t8 tk8))
  trivial
end Mine
theorem Mine.wend_Fn : True := by
  k_with_none
  trivial
namespace Mine
theorem w1_Ul : True := by
  k_with_none
  (k_with "k_room" => first | exact Nat.le_of_ble_eq_true rfl | exact rm (b := 1) hdp (by decide) | exact rm (b := 2) hdp (by decide) | exact rm (b := 3) hdp (by decide) | exact rm (b := 4) hdp (by decide) | exact rm (b := 5) hdp (by decide) | exact rm (b := 6) hdp (by decide) | exact rm (b := 7) hdp (by decide) | exact rm (b := 8) hdp (by decide) | exact rm (b := 9) hdp (by decide) | exact rm (b := 10) hdp (by decide) | exact rm (b := 11) hdp (by decide) | exact rm (b := 12) hdp (by decide) | exact rm (b := 13) hdp (by decide) | exact rm (b := 14) hdp (by decide) | exact rm (b := 15) hdp (by decide) | exact rm (b := 16) hdp (by decide) | exact rm (b := 17) hdp (by decide) | exact rm (b := 18) hdp (by decide) | exact rm (b := 19) hdp (by decide) | exact rm (b := 20) hdp (by decide) | exact rm (b := 21) hdp (by decide) | exact rm (b := 22) hdp (by decide) | exact rm (b := 23) hdp (by decide) | exact rm (b := 24) hdp (by decide) | exact rm (b := 25) hdp (by decide) | exact rm (b := 1) hu (by decide) | exact rm (b := 3) hu (by decide) | exact rm (b := 4) hu (by decide) | exact rm (b := 7) hu (by decide) | exact rm (b := 19) hu (by decide) | exact rm (b := 23) hu (by decide) | exact rm (b := 35) hu (by decide) | exact rm (b := 39) hu (by decide) | exact rm (b := 51) hu (by decide) | exact rm (b := 55) hu (by decide) | exact rm (b := 64) hu (by decide) | exact rm (b := 67) hu (by decide) | exact rm (b := 71) hu (by decide) | exact rm (b := 83) hu (by decide) | exact rm (b := 87) hu (by decide) | exact rm (b := 99) hu (by decide) | exact rm (b := 103) hu (by decide) | exact rm (b := 115) hu (by decide) | exact rm (b := 119) hu (by decide) | exact rm (b := 131) hu (by decide) | exact rm (b := 135) hu (by decide) | exact rm (b := 147) hu (by decide) | exact rm (b := 151) hu (by decide) | exact rm (b := 163) hu (by decide) | exact rm (b := 167) hu (by decide) | exact rm (b := 179) hu (by decide) | exact rm (b := 183) hu (by decide) | exact rm (b := 195) hu (by decide) | exact rm (b := 199) hu (by decide) | exact rm (b := 211) hu (by decide) | exact rm (b := 215) hu (by decide) | exact rm (b := 227) hu (by decide) | exact rm (b := 231) hu (by decide) | exact rm (b := 243) hu (by decide) | exact rm (b := 247) hu (by decide) | exact rm (b := 259) hu (by decide) | exact rm (b := 263) hu (by decide) | exact rm (b := 275) hu (by decide) | exact rm (b := 279) hu (by decide) | exact rm (b := 291) hu (by decide) | exact rm (b := 295) hu (by decide) | exact rm (b := 307) hu (by decide) | exact rm (b := 311) hu (by decide) | exact rm (b := 323) hu (by decide) | exact rm (b := 327) hu (by decide) | exact rm (b := 339) hu (by decide) | exact rm (b := 343) hu (by decide) | exact rm (b := 355) hu (by decide) | exact rm (b := 371) hu (by decide) | exact rm (b := 387) hu (by decide) | ktr_room | ktr_units)
  (k_with "execs cons" => (k_here; k_fold))
  (k_with "execs cons" => (k_here; refine gen_tk ?_; intro tk8))
  (k_with "eval Constant str" => (k_here; refine const_str ?_; intro t8 tk8))
  (k_with "eval Constant int" => (k_here; refine const_int ?_; intro t8 tk8))
  (k_with "exec For Name Call cons nil" => (k_here; refine hold_of ?_))
  (k_with "exec For Name Name cons nil" => (k_here; refine hold_of ?_))
  trivial
theorem secIter_succ : ∀ (n : Nat) (p : Int × Int), secIter (n + 1) p = ((secIter n p).1 + (secIter n p).2, (secIter n p).1 + (secIter n p).2 + (secIter n p).2)
  | 0, p => rfl
  | n + 1, p => by rw [secIter, secIter_succ n]; rfl
theorem range_fits {n : Nat} (h : n ≤ 3) : Builtin.Range.small 0 (n : Int) 1 = true ∧ Builtin.Range.rangeSize 0 (n : Int) 1 = ((n : Nat) : Int) := by
  have : n = 0 ∨ n = 1 ∨ n = 2 ∨ n = 3 := by first | lia | omega
  rcases this with rfl | rfl | rfl | rfl <;> decide
theorem second_c (w : World) (news : List (Addr × Obj)) (n : Nat) (t : Tok) : MyCl w 795 8 news (1 ≤ n ∧ n ≤ 3) [Value.int n t] (rInt news (secondF n)) := by
  dsimp only [MyCl, rInt]; k_fill; intros
  rename_i loose mean mg mb dp un gd cn cs a ccd cl outer A₀ base h₀ L m s Q E B0 F0 X0 N0 T0 kk hpre hdp hu hret
  refine wpAny_call ?_
  k_dflt cell_enter
  refine let_A ?_
  intro A1
  rename_i g L' hh FG F N B X T
  k_steps
  unfold Hold
  refine for_any (h₀ := g) ?_ (hE := by with_unfolding_all passes_own)
  k_steps
  refine Or.inr ⟨_, _, _, _, _, n, _, news, fun i m' nw => nw = news ∧ (∃ t1, m' (Str.ofString "one") = some (.int (secIter i (1, 1)).1 t1)) ∧ (∃ t2, m' (Str.ofString "two") = some (.int (secIter i (1, 1)).2 t2)), rfl, rfl, by assumption, (range_fits hpre.2).1, (range_fits hpre.2).2, by k_asm, cb_drop (by assumption) (by kcj_all), ⟨rfl, ⟨_, rfl⟩, ⟨_, rfl⟩⟩, ?turn, ?done⟩
  case turn =>
    clear hret
    intro i v m₁ news₁ I oI s₁ hP hJ F₁ N₁ off
    obtain ⟨-, tv, rfl⟩ := hP
    obtain ⟨rfl, ⟨t1, h1⟩, t2, h2⟩ := hJ
    have F₂ := fr_kst F₁ (ps := [(Str.ofString "one", .int (secIter i (1, 1)).1 t1), (Str.ofString "two", .int (secIter i (1, 1)).2 t2)]) (by simp [h1, h2])
    clear F₁
    k_steps
    exact ⟨rfl, _, _, _, news₁, rfl, by k_asm, cb_drop (by k_asm) (by kcj_all), off, rfl, ⟨_, by rw [secIter_succ]; rfl⟩, ⟨_, by rw [secIter_succ]; rfl⟩⟩
  case done =>
    intro h' tk' m₁ news₁ F₁ N₁ hJ
    obtain ⟨rfl, ⟨t1, h1⟩, t2, h2⟩ := hJ
    have F₂ := fr_kst F₁ (ps := [(Str.ofString "one", .int (secIter n (1, 1)).1 t1), (Str.ofString "two", .int (secIter n (1, 1)).2 t2)]) (by simp [h1, h2])
    clear F₁
    k_steps
    exact hret _ _ _ (by k_asm) (by k_asm)

theorem w2_Ul : True := by
  (k_with "exec While" => (k_here; refine hold_of ?_))
  (k_with "k_all" => assumption)
  (k_with "getMethod ref" => (k_here; (with_reducible show wpAny _ _ (getMethod (Value.ref _) (PySem.Str.ofString "remove") _) _ _ _); k_dflt (refine' listMethod_K ?N ?m PySem.F.slot_list_remove PySem.F.type_list_remove ?_; (case N => k_asm); (case m => k_mem))))
  (k_with "call builtin:list.remove" => (k_here; refine hold_of ?_))
  trivial
section
variable {prog : Program} {w : World} {A : Around} {E : Value → Shared → Prop} {s : Shared} {h₀ : Heap} {L D : Addr} {m : Str → Option Value} {news news' : List (Addr × Obj)} {n : Nat}
theorem truth_snoc {p : List Value} {y : Value} {Q : Bool → Shared → Prop} (N : News h₀ L s.heap news) (hm : (D, listOf (p ++ [y]).toArray n) ∈ news) (hz : p.length ≤ 10000) (h : ∀ tk, Q true { s with toks := tk }) : wpAny (model prog w) A (truthy (.ref D)) Q E s := by
  refine wpAny_truthy_list (items := (p ++ [y]).toArray) ⟨_, (N _ hm).1, rfl, n, rfl⟩ (by simp; first | lia | omega) ?_
  have e : (!(p ++ [y]).toArray.isEmpty) = true := by simp [Array.isEmpty]
  rw [e]; exact h _
theorem pop_snoc {p : List Value} {y : Value} {Q : Value → Shared → Prop} (F : Fr h₀ L s.heap m) (N : News h₀ L s.heap news) (U : Upd D (listOf (p ++ [y]).toArray n) (listOf p.toArray (n + 1)) news news') (hz : p.length ≤ 10000)
    (h : ∀ h', Fr h₀ L h' m → News h₀ L h' news' → Q y { s with heap := h' }) : wpAny (model prog w) A (call (.builtin "list.pop") [.ref D]) Q E s :=
  kl_pop F N (p := p) (y := y) (kpa_last y p) U (by simp [sizeLine_eq]; first | lia | omega) h
end
theorem w3_Ul : True := by
  (k_with "truthy ref" => (k_here; (dsimp only); k_dflt (refine' truth_snoc ?k1 ?k2 ?k3 ?_; (case k1 => k_asm); (case k2 => k_mem); (case k3 => first | lia | omega)); intro tq))
  (k_with "call builtin:list.pop" => (k_here; k_dflt (refine' pop_snoc ?k1 ?k2 ?k3 ?k4 ?_; (case k1 => k_asm); (case k2 => k_asm); (case k3 => k_upd); (case k4 => first | lia | omega)); intro h' F' N'; (try k_sweep)))
  trivial
theorem ints_snoc : ∀ {vs : List Value} {ns : List Int}, IntsAre vs ns → (vs = [] ∧ ns = []) ∨ ∃ vi ni n t, vs = vi ++ [.int n t] ∧ ns = ni ++ [n] ∧ IntsAre vi ni
  | _, _, .nil => .inl ⟨rfl, rfl⟩
  | _, _, .cons n t h => by
    rcases ints_snoc h with ⟨rfl, rfl⟩ | ⟨vi, ni, k, u, rfl, rfl, h'⟩
    · exact .inr ⟨[], [], n, t, rfl, rfl, .nil⟩
    · exact .inr ⟨.int n t :: vi, n :: ni, k, u, rfl, rfl, .cons n t h'⟩
theorem intsAre_snoc {z : Int} {t : Tok} : ∀ {vs : List Value} {ns : List Int}, IntsAre vs ns → IntsAre (vs ++ [.int z t]) (ns ++ [z])
  | _, _, .nil => .cons _ _ .nil
  | _, _, .cons n u h => .cons n u (intsAre_snoc h)
theorem uld_c (w : World) (news : List (Addr × Obj)) (ea aa : Nat) (es as : List Value) (xs ys : List Int) (ne na : Nat) :
    MyClT w 755 8 ((aa, listOf as.toArray na) :: (ea, listOf es.toArray ne) :: news) (IntsAre es xs ∧ IntsAre as ys ∧ es.length ≤ 1000 ∧ as.length ≤ 1000 ∧ (∀ p ∈ news, p.1 ≠ ea) ∧ (∀ p ∈ news, p.1 ≠ aa) ∧ ea ≠ aa) [Value.ref ea, Value.ref aa]
      (fun G L m s Q => ∀ (g' : Heap) (T M : Nat) (ms as' : List Value) (nm na' : Nat) (h' : Heap) (tk' : Nat), G g' → IntsAre ms (uld xs.reverse ys []).1 → IntsAre as' (uld xs.reverse ys []).2 → aa < M → M < T → (∀ p ∈ news, p.1 < M) → Fr g' L h' m →
        News g' L h' ((T, { cls := .type "tuple", data := .seq #[.ref M, .ref aa] }) :: (M, listOf ms.toArray nm) :: (aa, listOf as'.toArray na') :: news) → Q (.ref T) { s with heap := h', toks := tk' }) := by
  dsimp only [MyClT]; k_fill; intros
  rename_i loose mean mg mb dp un gd cn cs a ccd cl outer A₀ base h₀ L m s Q E B0 F0 X0 N0 T0 kk XB TB D0 hpre hdp hu hret
  obtain ⟨hI1, hI2, hl1, hl2, hea, hna, haa⟩ := hpre
  refine wpAny_call ?_
  k_dflt (refine' code_defT ?k1 ?k2 ?k3 ?k4 ?k5 ?XB ?TB ?D ?kA ?kF ?kK ?k6 ?k7 ?k8 ?k9 ?kB ?_ ?c2 ?c3 ?c4 ?c5; (case kA => exact rfl); (case kF => exact rfl); (case kK => assumption); (case k1 => exact B0); (case k2 => exact F0); (case k3 => exact X0); (case k4 => exact N0); (case k5 => exact T0); (case XB => exact XB); (case TB => exact TB); (case D => exact D0); (case k6 => k_is); (case k7 => k_is); (case k8 => k_room); (case k9 => exact BindsTo.of_eq rfl); (case c5 => decide); (case kB => exact locs rfl); (case c2 => exact rfl); (case c3 => exact rfl); (case c4 => exact rfl); k_whole; intro g L' hh FG F N B X T D; (try dsimp only); (try k_lift B); (try k_fold))
  k_steps
  unfold Hold
  rename_i M h0' l1 h1' F' N'
  refine While_turn (Gr (ktrTop dp un gd cn cs L a ccd cl outer) base (envX cn cs L a ccd cl :: outer) (MineH.KH w.params) MineH.vw loose mean mg mb g)
    (fun n m' nw => ∃ (es' as' ms' : List Value) (xs' ys' zs : List Int) (ne' na' nm' : Nat), IntsAre es' xs' ∧ IntsAre as' ys' ∧ IntsAre ms' zs ∧ uld xs'.reverse ys' zs = uld xs.reverse ys [] ∧ es'.length = n ∧ n ≤ 1000 ∧ as'.length ≤ 1000 ∧ ms'.length + n ≤ 1000 ∧
      m' (Str.ofString "expected") = some (.ref ea) ∧ m' (Str.ofString "actual") = some (.ref aa) ∧ m' (Str.ofString "missing") = some (.ref M) ∧
      nw = (M, listOf ms'.toArray nm') :: (aa, listOf as'.toArray na') :: (ea, listOf es'.toArray ne') :: news) (n₀ := es.length)
    (Gr.refl B X T D) (by k_asm) (by k_asm) ⟨es, as, [], xs, ys, [], ne, na, 0, hI1, hI2, .nil, rfl, rfl, hl1, hl2, by simpa using hl1, rfl, rfl, rfl, rfl⟩ ?turn (by with_unfolding_all passes_own)
  case turn =>
    rintro g' n m₁ news₁ h₁ tk₁ hG F₁ N₁ ⟨es', as', ms', xs', ys', zs, ne', na', nm', i1, i2, i3, hu', hn, hn1, hla, hlm, q1, q2, q3, rfl⟩
    have F₂ := fr_kst F₁ (ps := [(Str.ofString "expected", .ref ea), (Str.ofString "actual", .ref aa), (Str.ofString "missing", .ref M)]) (by simp [q1, q2, q3])
    clear F₁ F' N'
    have B1 := hG.below
    have X1 := hG.here
    have T1 := hG.top
    have D1 := hG.dicts
    rcases ints_snoc i1 with ⟨rfl, rfl⟩ | ⟨vi, ni, z, tz, rfl, rfl, i1'⟩
    · k_steps
      rename_i D' h9 F9' N9' l2
      show LeaveT _ _ _ _ _ _ _ _
      refine ⟨g', L', _, _, hG.turn, by k_asm, cb_drop (news := (D', { cls := Value.type "tuple", data := Data.seq #[Value.ref M, Value.ref aa] }) :: (M, listOf ms'.toArray nm') :: (aa, listOf as'.toArray na') :: news) (by k_asm) (by kcj_all), fun h₀' hG' F9 N9 => ?_⟩
      have hu2 : (zs, ys') = uld xs.reverse ys [] := hu'
      exact hret h₀' D' M ms' as' nm' na' _ _ hG' (by rw [← hu2]; exact i3) (by rw [← hu2]; exact i2) l1.1 l2.1 (allLt_mem l1.2.2) F9 N9
    · clear hret
      have hvl : vi.length + 1 = n := by simpa using hn
      k_steps
      unfold Hold
      have hMa : M ≠ aa := (Nat.ne_of_lt l1.1).symm
      have hpo : ∀ p ∈ (ea, listOf vi.toArray (ne' + 1)) :: news, p.1 ≠ aa := by
        intro p hp
        rcases List.mem_cons.mp hp with rfl | hp
        · exact haa
        · exact hna p hp
      have hul : uld (ni ++ [z]).reverse ys' zs = if z ∈ ys' then uld ni.reverse (ys'.erase z) zs else uld ni.reverse ys' (zs ++ [z]) := by
        rw [List.reverse_append]; rfl
      by_cases hz : z ∈ ys'
      · refine rm_hit (by k_asm) (by k_asm) hMa hpo i2 hz hla fun as2 na2 h2 ia2 hl2' F5 N5 => ?_
        rw [if_pos hz, hu'] at hul
        k_steps
        exact ⟨g', _, _, _, _, vi.length, hG, rfl, by k_asm, by k_asm, by first | lia | omega, vi, as2, ms', ni, _, zs, _, _, _, i1', ia2, i3, hul.symm, rfl, by first | lia | omega, by first | lia | omega, by first | lia | omega, rfl, rfl, rfl, rfl⟩
      · refine rm_miss (as := as') (n := na') (ys := ys') ?hd rfl i2 hz fun h2 tk2 e hx => ?_
        case hd => exact (News.get (by k_asm) (by k_mem))
        rw [if_neg hz, hu'] at hul
        dsimp only
        refine caught_new (T' := "ValueError") B1 (by k_asm) (by k_asm) hx XB TB D1 (by k_is) PyProof.Rows.Boot.«ValueError» (by decide) PySem.F.isExc_ValueError PySem.F.notTuple_ValueError (by rw [isSubtype_type]; kernel_rfl) ?_ (hE := by with_unfolding_all passes_own)
        intro h6 g6 T6 F6 N6 B6 X6 P6 D6
        have hG6 := hG.trans ⟨T6, B6, X6, P6, D6⟩
        clear hx hG B1 X1 T1 D1
        k_steps
        rename_i N7
        rw [List.push_toArray] at N7
        exact ⟨g6, _, _, _, _, vi.length, hG6, rfl, by k_asm, N7, by first | lia | omega, vi, as', ms' ++ [.int z tz], ni, ys', zs ++ [z], _, _, _, i1', i2, intsAre_snoc i3, hul.symm, rfl, by first | lia | omega, hla, by rw [List.length_append, List.length_singleton]; first | lia | omega, rfl, rfl, rfl, rfl⟩
end Mine
theorem Mine.wend_Ul : True := by
  k_with_none
  trivial
namespace Mine
open PyProof.Rows.LCg
theorem szIter_succ : ∀ (n : Nat) (p : List Int × List Int), szIter (n + 1) p = szStep (szIter n p)
  | 0, p => rfl
  | n + 1, p => by rw [szIter, szIter_succ n]; rfl
theorem sz_facts {i : Nat} (h : i < 3) : (uld (longer (szIter i ([], [0])).2).reverse ((szIter i ([], [0])).1.map fun s => s + 2) []).2 = [] ∧ (longer (szIter i ([], [0])).2).length ≤ 1000 ∧ (szIter i ([], [0])).1.length ≤ 1000 ∧ (szIter i ([], [0])).2.length * 3 ≤ 1000 := by
  have : i = 0 ∨ i = 1 ∨ i = 2 := by first | lia | omega
  rcases this with rfl | rfl | rfl <;> decide +kernel
section
theorem w1_Sz : True := by
  k_with_none
  (k_with "k_room" => first | exact Nat.le_of_ble_eq_true rfl | exact rm (b := 1) hdp (by decide) | exact rm (b := 2) hdp (by decide) | exact rm (b := 3) hdp (by decide) | exact rm (b := 4) hdp (by decide) | exact rm (b := 5) hdp (by decide) | exact rm (b := 6) hdp (by decide) | exact rm (b := 7) hdp (by decide) | exact rm (b := 8) hdp (by decide) | exact rm (b := 9) hdp (by decide) | exact rm (b := 10) hdp (by decide) | exact rm (b := 11) hdp (by decide) | exact rm (b := 12) hdp (by decide) | exact rm (b := 13) hdp (by decide) | exact rm (b := 14) hdp (by decide) | exact rm (b := 15) hdp (by decide) | exact rm (b := 16) hdp (by decide) | exact rm (b := 17) hdp (by decide) | exact rm (b := 18) hdp (by decide) | exact rm (b := 19) hdp (by decide) | exact rm (b := 20) hdp (by decide) | exact rm (b := 21) hdp (by decide) | exact rm (b := 22) hdp (by decide) | exact rm (b := 23) hdp (by decide) | exact rm (b := 24) hdp (by decide) | exact rm (b := 25) hdp (by decide) | exact rm (b := 1) hu (by decide) | exact rm (b := 3) hu (by decide) | exact rm (b := 4) hu (by decide) | exact rm (b := 7) hu (by decide) | exact rm (b := 19) hu (by decide) | exact rm (b := 23) hu (by decide) | exact rm (b := 35) hu (by decide) | exact rm (b := 39) hu (by decide) | exact rm (b := 51) hu (by decide) | exact rm (b := 55) hu (by decide) | exact rm (b := 64) hu (by decide) | exact rm (b := 67) hu (by decide) | exact rm (b := 71) hu (by decide) | exact rm (b := 83) hu (by decide) | exact rm (b := 87) hu (by decide) | exact rm (b := 99) hu (by decide) | exact rm (b := 103) hu (by decide) | exact rm (b := 115) hu (by decide) | exact rm (b := 119) hu (by decide) | exact rm (b := 131) hu (by decide) | exact rm (b := 135) hu (by decide) | exact rm (b := 147) hu (by decide) | exact rm (b := 151) hu (by decide) | exact rm (b := 163) hu (by decide) | exact rm (b := 167) hu (by decide) | exact rm (b := 179) hu (by decide) | exact rm (b := 183) hu (by decide) | exact rm (b := 195) hu (by decide) | exact rm (b := 199) hu (by decide) | exact rm (b := 211) hu (by decide) | exact rm (b := 215) hu (by decide) | exact rm (b := 227) hu (by decide) | exact rm (b := 231) hu (by decide) | exact rm (b := 243) hu (by decide) | exact rm (b := 247) hu (by decide) | exact rm (b := 259) hu (by decide) | exact rm (b := 263) hu (by decide) | exact rm (b := 275) hu (by decide) | exact rm (b := 279) hu (by decide) | exact rm (b := 291) hu (by decide) | exact rm (b := 295) hu (by decide) | exact rm (b := 307) hu (by decide) | exact rm (b := 311) hu (by decide) | exact rm (b := 323) hu (by decide) | exact rm (b := 327) hu (by decide) | exact rm (b := 339) hu (by decide) | exact rm (b := 343) hu (by decide) | exact rm (b := 355) hu (by decide) | exact rm (b := 371) hu (by decide) | exact rm (b := 387) hu (by decide) | ktr_room | ktr_units)
  (k_with "execs cons" => (k_here; k_fold))
  (k_with "execs cons" => (k_here; refine gen_tk ?_; intro tk8))
  (k_with "eval Constant str" => (k_here; refine const_str ?_; intro t8 tk8))
  (k_with "eval Constant int" => (k_here; refine const_int ?_; intro t8 tk8))
  (k_with "exec For Name Call cons nil" => (k_here; refine hold_of ?_))
  (k_with "exec Assign cons ListComp" => (k_here; refine hold_of ?_))
  (k_with "call ref" => (k_here; refine hold_of ?_))
  (k_with "CompSrc" => (k_here; refine hold_of ?_))
  (k_with "eval ListComp" => (k_here; refine hold_of ?_))
  trivial
theorem sizes_c (w : World) (news : List (Addr × Obj)) (n : Nat) (t : Tok) : MyClT w 800 16 news (1 ≤ n ∧ n ≤ 3) [Value.int n t]
    (fun G L m s Q => ∀ (g' : Heap) (D : Nat) (ys : List Value) (k : Nat) (h' : Heap) (tk' : Nat), G g' → IntsAre ys (sizesF n) → Fr g' L h' m → News g' L h' ((D, listOf ys.toArray k) :: news) → Q (.ref D) { s with heap := h', toks := tk' }) := by
  dsimp only [MyClT]; k_fill; intros
  rename_i loose mean mg mb dp un gd cn cs a ccd cl outer A₀ base h₀ L m s Q E B0 F0 X0 N0 T0 kk XB TB D0 hpre hdp hu hret
  refine wpAny_call ?_
  k_dflt (refine' code_defT ?k1 ?k2 ?k3 ?k4 ?k5 ?XB ?TB ?D ?kA ?kF ?kK ?k6 ?k7 ?k8 ?k9 ?kB ?_ ?c2 ?c3 ?c4 ?c5; (case kA => exact rfl); (case kF => exact rfl); (case kK => assumption); (case k1 => exact B0); (case k2 => exact F0); (case k3 => exact X0); (case k4 => exact N0); (case k5 => exact T0); (case XB => exact XB); (case TB => exact TB); (case D => exact D0); (case k6 => k_is); (case k7 => k_is); (case k8 => k_room); (case k9 => exact BindsTo.of_eq rfl); (case c5 => decide); (case kB => exact locs rfl); (case c2 => exact rfl); (case c3 => exact rfl); (case c4 => exact rfl); k_whole; intro g L' hh FG F N B X T D; (try dsimp only); (try k_lift B); (try k_fold))
  k_steps
  unfold Hold
  refine for_turn (Gr (ktrTop dp un gd cn cs L a ccd cl outer) base (envX cn cs L a ccd cl :: outer) (MineH.KH w.params) MineH.vw loose mean mg mb g) (by rfl) (by rfl) ?_ (hE := by with_unfolding_all passes_own)
  k_steps
  refine' ⟨g, _, _, _, _, _, n, _, _, fun i m' nw => ∃ (Bf Sz : Addr) (bs ss : List Value) (nb ns : Nat), IntsAre bs (szIter i ([], [0])).1 ∧ IntsAre ss (szIter i ([], [0])).2 ∧ m' (Str.ofString "before") = some (.ref Bf) ∧ m' (Str.ofString "sizes") = some (.ref Sz) ∧
      nw = (Sz, listOf ss.toArray ns) :: (Bf, listOf bs.toArray nb) :: news, Gr.refl B X T D, rfl, rfl, ?r, (range_fits hpre.2).1, (range_fits hpre.2).2, ?F0, ?N0, ?J0, ?turn, ?done⟩
  case r => assumption
  case F0 => k_asm
  case N0 => exact cb_drop (news := (_, listOf (List.toArray [Value.int 0 _]) _) :: (_, listOf (List.toArray []) _) :: news) (by assumption) (by kcj_all)
  case J0 => exact ⟨_, _, [], [.int 0 _], 0, _, .nil, .cons _ _ .nil, rfl, rfl, rfl⟩
  case turn =>
    clear hret
    rintro g' i ti m₁ news₁ I oI h₁ tk₁ hG hi ⟨Bf, Sz, bs, ss, nb, ns, i1, i2, q1, q2, rfl⟩ F₁ N₁ off
    have B1 := hG.below
    have X1 := hG.here
    have T1 := hG.top
    have D1 := hG.dicts
    have F₂ := fr_kst F₁ (ps := [(Str.ofString "before", .ref Bf), (Str.ofString "sizes", .ref Sz)]) (by simp only [List.forall_mem_cons]; exact ⟨q1, q2, fun _ h => nomatch h⟩)
    clear F₁
    obtain ⟨z1, z2, z3, z4⟩ := sz_facts (i := i) (by first | lia | omega)
    k_steps
    unfold Hold
    refine Assign_nest (h₀ := g') (L := L') (F₀ := by k_asm) rfl (by with_unfolding_all rfl) (by with_unfolding_all rfl) (by decide) rfl (by decide) rfl rfl (by decide) rfl rfl ?_
    k_steps
    refine nest_from (P1 := IsI) (P2 := IsI) (P3 := IsI) (as := (szIter i ([], [0])).2) [1, 1, 2] (fun a b => a + b) rfl (by k_asm) (by k_asm) (.inr ⟨_, by k_mem, rfl, _, rfl⟩) (are_ints i2) (by show _ * 3 ≤ _; first | lia | omega) ?inner ?each ?fin
    case inner =>
      intro s' I' oI' C' oC' D' m₂ ys h tk E' hC F3 N3 off3
      k_steps
      rename_i F9 N9 l9
      exact inner_tup F9 N9 l9.1 l9.2.1 l9.2.2.1 (.cons ⟨_, rfl⟩ (.cons ⟨_, rfl⟩ (.cons ⟨_, rfl⟩ .nil)))
    case each =>
      intro s' a b v u I' oI' C' oC' m' h tk rest E' hP1 hP2 hC hx hy F3 N3
      obtain ⟨t1, rfl⟩ := hP1
      obtain ⟨t2, rfl⟩ := hP2
      k_steps
      exact ⟨_, _, rfl, F3, N3, ⟨_, rfl⟩⟩
    case fin =>
      intro gg lg hA
      unfold FinA
      intro Lg h' tk' F3 N3 o1
      clear N₁ F₂
      k_steps
      unfold Hold
      refine ListComp_U (F₀ := F3) (by rfl) (by decide) (by rfl) (by decide) (by rfl) ?_
      k_steps
      unfold Hold
      refine one_from (P1 := IsI) (P3 := IsI) (as := (szIter i ([], [0])).1) (fun a => a + 2) rfl (by k_asm) (by k_asm) (by k_mem) (are_ints i1) (by first | lia | omega) ?each ?fin
      case each =>
        intro s' a v ys I' oI' C' oC' D' m₂ h tk E' hP hC hx F4 N4
        obtain ⟨t1, rfl⟩ := hP
        k_steps
        exact ⟨_, _, rfl, F4, N4, ⟨_, rfl⟩⟩
      case fin =>
        intro gg ac hA2
        unfold FinE
        intro Ac h5 tk5 F5 N5 o5
        clear N3 F3
        k_steps
        unfold Hold
        have iL : IntsAre lg (longer (szIter i ([], [0])).2) := hA.ints
        have iA : IntsAre ac ((szIter i ([], [0])).1.map fun s => s + 2) := hA2.ints
        have lL := iL.length
        have lA := iA.length
        rw [List.length_map] at lA
        k_dflt (refine' uld_c w ((I, oI) :: (Sz, listOf ss.toArray ns) :: (Bf, listOf bs.toArray nb) :: news) Lg Ac lg ac _ _ _ _ loose mean mg mb _ _ _ _ _ _ _ _ _ _ base g' L' _ _ _ _ B1 F5 X1 N5 T1 rfl XB TB D1 ⟨iL, iA, by first | lia | omega, by first | lia | omega, off1_mem o1, fun p hp => off1_mem o5 p (.tail _ hp), off1_mem o5 _ (.head _)⟩ ?kd ?ku ?_)
        case kd => k_room
        case ku => k_room
        intro g6 T6 M6 ms as' nm na' h6 tk6 hG6 im ia hM hT hlt F6 N6
        rw [z1] at ia
        cases ia
        have hG7 := hG.trans hG6
        have B6 := hG6.below
        have X6 := hG6.here
        have P6 := hG6.top
        have D6 := hG6.dicts
        clear B1 X1 T1 D1 F5 N5 hG6 hG
        k_steps
        refine ⟨rfl, g6, _, _, _, (M6, listOf ms.toArray nm) :: (Sz, listOf ss.toArray ns) :: news, hG7, rfl, by k_asm, cb_drop (by k_asm) (by kcj_all), ?off, Sz, M6, ss, ms, ns, nm, by rw [szIter_succ]; exact i2, by rw [szIter_succ]; exact im, rfl, rfl, rfl⟩
        intro p hp
        rcases List.mem_cons.mp hp with rfl | hp
        · exact (Nat.ne_of_lt (hlt _ (.head _))).symm
        · rcases List.mem_cons.mp hp with rfl | hp
          · exact off _ (.head _)
          · exact off _ (.tail _ (.tail _ hp))
  case done =>
    rintro g' h' tk' m₁ news₁ hG F₁ N₁ ⟨Bf, Sz, bs, ss, nb, ns, i1, i2, q1, q2, rfl⟩
    have F₂ := fr_kst F₁ (ps := [(Str.ofString "sizes", .ref Sz)]) (by simp only [List.forall_mem_cons]; exact ⟨q2, fun _ h => nomatch h⟩)
    have B1 := hG.below
    have X1 := hG.here
    have T1 := hG.top
    clear F₁
    k_steps
    show LeaveT _ _ _ _ _ _ _ _
    exact ⟨g', L', _, (Sz, listOf ss.toArray ns) :: news, hG.turn, by k_asm, cb_drop (by k_asm) (by kcj_all), fun h₀' hG' F9 N9 => hret h₀' Sz ss ns _ _ hG' i2 F9 N9⟩
end
theorem w2_Sz : True := by
  k_with_none
  trivial
end Mine
theorem Mine.wend_Sz : True := by
  k_with_none
  trivial
namespace Mine
open PyProof.Rows.LCg
section
variable {prog : Program} {w : World} {A : Around} {E : Value → Shared → Prop} {s : Shared} {h₀ : Heap} {L l : Addr} {m : Str → Option Value} {news : List (Addr × Obj)} {vs : List Value} {xs : List Str} {n : Nat}
theorem strs_get : ∀ {vs : List Value} {xs : List Str}, StrsAre vs xs → ∀ {k : Nat}, k < xs.length → ∃ t, vs[k]? = some (.str (xs.getD k Str.empty) t)
  | _, _, .nil, k, h => absurd h (by simp)
  | _, _, .cons x t _, 0, _ => ⟨t, rfl⟩
  | _, _, .cons x t r, k + 1, h => strs_get r (k := k) (by simpa using h)
theorem item_strs_at {value slice : PySem.Expr} {k : Int} {u : Tok} {Q : Value → Shared → Prop} (N : News h₀ L s.heap news) (hm : (l, listOf vs.toArray n) ∈ news) (hI : StrsAre vs xs) (h0 : 0 ≤ k) (hk : k < xs.length) (hl : xs.length ≤ 100) (hz : ∀ y ∈ xs, y.length ≤ 100)
    (h : ∀ x t, x = xs.getD k.toNat Str.empty → x.length ≤ 100 → Q (.str x t) s) (hs : subscripted slice false (.ref l) (.int k u) = operate [.ref l, .int k u] (getItem (.ref l) (.int k u)) := by with_unfolding_all rfl) :
    wpAny (model prog w) A (subscriptTail value slice (.ref l) (.int k u)) Q E s := by
  obtain ⟨t, ht⟩ := strs_get hI (k := k.toNat) (by first | lia | omega)
  have hl' : s.heap.IsList l vs.toArray := ⟨_, (N _ hm).1, rfl, n, rfl⟩
  exact tail_any hl'.typeIs slot_list_getitem.lookup (wpAny_getItem_list hl' h0 (by first | lia | omega) (by simpa using ht) (h _ t rfl (hz _ (by rw [List.getD_eq_getElem?_getD, List.getElem?_eq_getElem (by first | lia | omega)]; exact List.getElem_mem _)))) hs
end
section
theorem w1_Tt : True := by
  k_with_none
  (k_with "k_room" => first | exact Nat.le_of_ble_eq_true rfl | exact rm (b := 1) hdp (by decide) | exact rm (b := 2) hdp (by decide) | exact rm (b := 3) hdp (by decide) | exact rm (b := 4) hdp (by decide) | exact rm (b := 5) hdp (by decide) | exact rm (b := 6) hdp (by decide) | exact rm (b := 7) hdp (by decide) | exact rm (b := 8) hdp (by decide) | exact rm (b := 9) hdp (by decide) | exact rm (b := 10) hdp (by decide) | exact rm (b := 11) hdp (by decide) | exact rm (b := 12) hdp (by decide) | exact rm (b := 13) hdp (by decide) | exact rm (b := 14) hdp (by decide) | exact rm (b := 15) hdp (by decide) | exact rm (b := 16) hdp (by decide) | exact rm (b := 17) hdp (by decide) | exact rm (b := 18) hdp (by decide) | exact rm (b := 19) hdp (by decide) | exact rm (b := 20) hdp (by decide) | exact rm (b := 21) hdp (by decide) | exact rm (b := 22) hdp (by decide) | exact rm (b := 23) hdp (by decide) | exact rm (b := 24) hdp (by decide) | exact rm (b := 25) hdp (by decide) | exact rm (b := 1) hu (by decide) | exact rm (b := 3) hu (by decide) | exact rm (b := 4) hu (by decide) | exact rm (b := 7) hu (by decide) | exact rm (b := 19) hu (by decide) | exact rm (b := 23) hu (by decide) | exact rm (b := 35) hu (by decide) | exact rm (b := 39) hu (by decide) | exact rm (b := 51) hu (by decide) | exact rm (b := 55) hu (by decide) | exact rm (b := 64) hu (by decide) | exact rm (b := 67) hu (by decide) | exact rm (b := 71) hu (by decide) | exact rm (b := 83) hu (by decide) | exact rm (b := 87) hu (by decide) | exact rm (b := 99) hu (by decide) | exact rm (b := 103) hu (by decide) | exact rm (b := 115) hu (by decide) | exact rm (b := 119) hu (by decide) | exact rm (b := 131) hu (by decide) | exact rm (b := 135) hu (by decide) | exact rm (b := 147) hu (by decide) | exact rm (b := 151) hu (by decide) | exact rm (b := 163) hu (by decide) | exact rm (b := 167) hu (by decide) | exact rm (b := 179) hu (by decide) | exact rm (b := 183) hu (by decide) | exact rm (b := 195) hu (by decide) | exact rm (b := 199) hu (by decide) | exact rm (b := 211) hu (by decide) | exact rm (b := 215) hu (by decide) | exact rm (b := 227) hu (by decide) | exact rm (b := 231) hu (by decide) | exact rm (b := 243) hu (by decide) | exact rm (b := 247) hu (by decide) | exact rm (b := 259) hu (by decide) | exact rm (b := 263) hu (by decide) | exact rm (b := 275) hu (by decide) | exact rm (b := 279) hu (by decide) | exact rm (b := 291) hu (by decide) | exact rm (b := 295) hu (by decide) | exact rm (b := 307) hu (by decide) | exact rm (b := 311) hu (by decide) | exact rm (b := 323) hu (by decide) | exact rm (b := 327) hu (by decide) | exact rm (b := 339) hu (by decide) | exact rm (b := 343) hu (by decide) | exact rm (b := 355) hu (by decide) | exact rm (b := 371) hu (by decide) | exact rm (b := 387) hu (by decide) | ktr_room | ktr_units)
  (k_with "execs cons" => (k_here; k_fold))
  (k_with "execs cons" => (k_here; refine gen_tk ?_; intro tk8))
  (k_with "eval Constant str" => (k_here; refine const_str ?_; intro t8 tk8))
  (k_with "eval Constant int" => (k_here; refine const_int ?_; intro t8 tk8))
  (k_with "exec For Name Name cons nil" => (k_here; refine hold_of ?_))
  (k_with "compareOp In str str" => (k_here; refine' in_isS ?e ?_; (case e => first | with_reducible assumption | exact (show _ = true by decide +kernel) | exact (show _ = false by decide +kernel))))
  (k_with "subscriptTail" => (k_here; k_dflt (refine' item_strs_at ?N ?m ?I ?h0 ?hk ?hl ?hz ?_; (case N => k_asm); (case m => k_mem); (case I => (repeat' constructor)); (case h0 => first | lia | omega); (case hk => (simp only [List.length_cons, List.length_nil]; first | lia | omega)); (case hl => exact Nat.le_of_ble_eq_true rfl); (case hz => (simp only [List.forall_mem_cons]; (repeat' apply And.intro) <;> first | (intro _ h; cases h) | decide +kernel | first | lia | omega))); intro x9 t9 e9 l9))
  (k_with "binaryOp Add str str" => (k_here; (refine SBL.add (hsz := ?hsz) ?_); (case hsz => (rw [sizeLine_eq]; first | lia | omega)); intro _ _ _))
  (k_with "inplaceOp Add str str" => (k_here; (refine SBL.iadd (hsz := ?hsz) ?_); (case hsz => (rw [sizeLine_eq]; first | lia | omega)); intro _ _ _))
  (k_with "execs cons" => (k_here; (with_reducible show wpAny _ _ (execs (Stmt.If _ _ _ _ :: _) _) _ _ _); refine hold_of ?_))
  trivial
theorem fdiv_nat (d k : Nat) : (d : Int).fdiv k = ((d / k : Nat) : Int) := by rw [Int.fdiv_eq_ediv_of_nonneg _ (by first | lia | omega)]; rfl
theorem fmod_nat (d k : Nat) : (d : Int).fmod k = ((d % k : Nat) : Int) := by rw [Int.fmod_eq_emod_of_nonneg _ (by first | lia | omega)]; rfl
theorem end_sel (d : Nat) : [Str.ofString "\n", Str.ofString "\r", Str.ofString "\r\n"].getD (d % 3) Str.empty = S (endF d) := by
  unfold endF
  have : d % 3 = 0 ∨ d % 3 = 1 ∨ d % 3 = 2 := by first | lia | omega
  rcases this with e | e | e <;> rw [e] <;> decide +kernel
theorem S_app (a b : List Nat) : S a ++ S b = S (a ++ b) := by
  show (⟨a.toArray ++ b.toArray⟩ : Str) = _
  congr 1
  apply Array.ext'
  simp
theorem row_sel (d : Nat) (sg : Str) (h : sg = S [signF d]) (sg2 : Str) (h2 : sg2 = S [46, signF d]) : [Str.ofString "", Str.ofString "", Str.ofString ".", Str.ofString "..", sg, sg2].getD (d / 3 % 6) Str.empty = S (rowF d) := by
  subst h h2
  unfold rowF
  have e0 : Str.ofString "" = S [] := by decide +kernel
  have e1 : Str.ofString "." = S [46] := by decide +kernel
  have e2 : Str.ofString ".." = S [46, 46] := by decide +kernel
  rw [e0, e1, e2]
  have : d / 3 % 6 = 0 ∨ d / 3 % 6 = 1 ∨ d / 3 % 6 = 2 ∨ d / 3 % 6 = 3 ∨ d / 3 % 6 = 4 ∨ d / 3 % 6 = 5 := by first | lia | omega
  rcases this with e | e | e | e | e | e <;> rw [e] <;> rfl
theorem text_end {d : Nat} {pre all : List Nat} {x1 x2 sg sg2 : Str} (hall : all = pre ++ (rowF d ++ endF d)) (hs : sg = S [signF d]) (hs2 : sg2 = S [46, signF d]) (e3 : (((d : Int).fdiv 3).fmod 6) = ((d / 3 % 6 : Nat) : Int)) (e1 : ((d : Int).fmod 3) = ((d % 3 : Nat) : Int))
    (h1 : x1 = [Str.ofString "", Str.ofString "", Str.ofString ".", Str.ofString "..", sg, sg2].getD (((d : Int).fdiv 3).fmod 6).toNat Str.empty) (h2 : x2 = [Str.ofString "\n", Str.ofString "\r", Str.ofString "\r\n"].getD ((d : Int).fmod 3).toNat Str.empty) {t : Tok} :
    some (Value.str (S pre ++ (x1 ++ x2)) t) = some (Value.str (S all) t) := by
  rw [e3, Int.toNat_natCast, row_sel d sg hs sg2 hs2] at h1
  rw [e1, Int.toNat_natCast, end_sel] at h2
  rw [h1, h2, S_app, S_app, hall]
theorem sp1 : Str.ofString " " = S [32] := by decide +kernel
theorem sp2 : Str.ofString ". " = S [46, 32] := by decide +kernel
theorem dot1 : Str.ofString "." = S [46] := by decide +kernel
theorem sign_t {d : Nat} (h : isEnd (d / 18 % 55296) = true) : signF d = 32 := by unfold signF; rw [if_pos (by simpa [isEnd] using h)]
theorem sign_f {d : Nat} (h : isEnd (d / 18 % 55296) = false) : signF d = d / 18 % 55296 := by
  unfold signF
  rw [if_neg]
  intro q
  have : isEnd (d / 18 % 55296) = true := by simpa [isEnd] using q
  rw [h] at this; cases this
/-- behind the choice of a sign -/
def SignP (g : Heap) (L' : Addr) (ca : Addr) (pre : List Nat) (tx : Tok) (d : Nat) (td : Tok) (led : List (Addr × Obj)) (s s' : Shared) : Prop :=
  ∃ (sg : Str) (tg : Tok) (u : Str → Option Value) (h' : Heap) (tk' : Nat), s' = { s with heap := h', toks := tk' } ∧ sg = S [signF d] ∧ Fr g L' h' (kstB u [(Str.ofString "cells", .ref ca), (Str.ofString "text", .str (S pre) tx), (Str.ofString "cell", .int d td), (Str.ofString "sign", .str sg tg)]) ∧ News g L' h' led
theorem text_c (w : World) (news : List (Addr × Obj)) (ca : Addr) (a b c : Nat) (ta tb tc : Tok) (n : Nat) : MyCl w 762 8 ((ca, listOf (List.toArray [Value.int a ta, .int b tb, .int c tc]) n) :: news) (a < 1000000 ∧ b < 1000000 ∧ c < 1000000) [Value.ref ca]
    (rStr ((ca, listOf (List.toArray [Value.int a ta, .int b tb, .int c tc]) n) :: news) (S (textF [a, b, c]))) := by
  dsimp only [MyCl, rStr]; k_fill; intros
  rename_i loose mean mg mb dp un gd cn cs aa ccd cl outer A₀ base h₀ L m s Q E B0 F0 X0 N0 T0 kk hpre hdp hu hret
  obtain ⟨ha, hb, hc⟩ := hpre
  refine wpAny_call ?_
  k_dflt cell_enter
  refine let_A ?_
  intro A1
  rename_i g L' hh FG F N B X T
  k_steps
  unfold Hold
  refine for_any (h₀ := g) ?_ (hE := by with_unfolding_all passes_own)
  k_steps
  have hAre : Are (fun (k : Nat) v => ∃ t, v = Value.int k t) (List.toArray [Value.int a ta, .int b tb, .int c tc]).toList [a, b, c] := .cons ⟨_, rfl⟩ (.cons ⟨_, rfl⟩ (.cons ⟨_, rfl⟩ .nil))
  refine' Or.inl ⟨ca, _, _, n, _, _, fun i m' nw => nw = (ca, listOf (List.toArray [Value.int a ta, .int b tb, .int c tc]) n) :: news ∧ i ≤ 3 ∧ m' (Str.ofString "cells") = some (.ref ca) ∧ ∃ t, m' (Str.ofString "text") = some (.str (S (([a, b, c].take i).flatMap fun c => rowF c ++ endF c)) t), rfl, rfl, rfl, rfl, Or.inr (fun i m' nw hJ => by rw [hJ.1]; exact .head _), ?F, ?N, ?J0, ?turn, ?done⟩
  case F => k_asm
  case N => k_asm
  case J0 => exact ⟨rfl, Nat.zero_le _, rfl, _, rfl⟩
  case turn =>
    clear hret
    rintro i v m₁ news₁ I oI s₁ hP ⟨rfl, hi3, q1, tx, q2⟩ F₁ N₁ off
    obtain ⟨d, hd', td, rfl⟩ := hAre.getA hP
    have hdl : d < 1000000 := by
      have : d ∈ [a, b, c] := List.mem_of_getElem? hd'
      simp at this
      rcases this with rfl | rfl | rfl <;> assumption
    generalize hpre : ([a, b, c].take i).flatMap (fun c => rowF c ++ endF c) = pre at q2
    have F₂ := fr_kst F₁ (ps := [(Str.ofString "cells", .ref ca), (Str.ofString "text", .str (S pre) tx)]) (by simp only [List.forall_mem_cons]; exact ⟨q1, q2, fun _ h => nomatch h⟩)
    clear F₁
    have hpl : (S pre).length ≤ 100 := by
      have := rows_len ([a, b, c].take i)
      rw [hpre] at this
      have h2 : ([a, b, c].take i).length ≤ 3 := by rw [List.length_take]; simp; first | lia | omega
      show pre.length ≤ 100
      first | lia | omega
    have hdot : (Str.ofString ".").length = 1 := by decide +kernel
    have hsg : ({ cps := #[(((d : Int).fdiv 18).fmod 55296).toNat] } : Str).length = 1 := rfl
    have e18 : (((d : Int).fdiv 18).fmod 55296) = ((d / 18 % 55296 : Nat) : Int) := (congrArg (fun z => Int.fmod z 55296) (fdiv_nat d 18)).trans (fmod_nat _ 55296)
    have e3 : (((d : Int).fdiv 3).fmod 6) = ((d / 3 % 6 : Nat) : Int) := (congrArg (fun z => Int.fmod z 6) (fdiv_nat d 3)).trans (fmod_nat _ 6)
    have e1 : ((d : Int).fmod 3) = ((d % 3 : Nat) : Int) := fmod_nat d 3
    have q4 : Txt.contains (Str.ofString "\r\n") { cps := #[(((d : Int).fdiv 18).fmod 55296).toNat] } = isEnd (d / 18 % 55296) := by rw [e18]; exact contains_crlfS _
    have hi4 : i + 1 ≤ 3 := by
      rcases Nat.lt_or_ge i 3 with q | q
      · exact q
      · rw [List.getElem?_eq_none (by simpa using q)] at hd'; cases hd'
    have hstep : ([a, b, c].take (i + 1)).flatMap (fun c => rowF c ++ endF c) = pre ++ (rowF d ++ endF d) := by
      rw [take_snoc hd', List.flatMap_append, hpre]; simp
    k_steps
    unfold Hold
    refine' cut_first (SignP g L' ca pre tx d td ?led s₁) ?sign ?rest
    case sign =>
      cases hq : isEnd (d / 18 % 55296) with
      | true =>
        rw [hq] at q4
        k_steps
        unfold Hold
        exact ⟨rfl, _, _, _, _, _, rfl, sp1.trans (by rw [sign_t hq]), fr_kst (by k_asm) (by simp only [List.forall_mem_cons]; exact ⟨rfl, rfl, rfl, rfl, fun _ h => nomatch h⟩), by k_asm⟩
      | false =>
        rw [hq] at q4
        have hs1 : ({ cps := #[(((d : Int).fdiv 18).fmod 55296).toNat] } : Str) = S [signF d] := by rw [sign_f hq, e18]; rfl
        k_steps
        unfold Hold
        exact ⟨rfl, _, _, _, _, _, rfl, hs1, fr_kst (by k_asm) (by simp only [List.forall_mem_cons]; exact ⟨rfl, rfl, rfl, rfl, fun _ h => nomatch h⟩), by k_asm⟩
    case rest =>
      rintro s' ⟨sg, tg, u, h5, tk5, rfl, hsg, F5, N5⟩
      clear F₂ q4 e18
      have hsgl : sg.length = 1 := by rw [hsg]; rfl
      have hs2 : Str.ofString "." ++ sg = S [46, signF d] := by rw [hsg, dot1]; exact S_app [46] [signF d]
      k_steps
      exact ⟨rfl, _, _, _, _, rfl, by k_asm, cb_drop (by k_asm) (by kcj_all), off, rfl, hi4, rfl, _, text_end hstep hsg hs2 e3 e1 (by assumption) (by assumption)⟩
  case done =>
    rintro h' tk' m₁ news₁ F₁ N₁ ⟨rfl, -, q1, tx, q2⟩
    have hl3 : (List.toArray [Value.int a ta, .int b tb, .int c tc]).size = 3 := rfl
    rw [hl3] at q2
    generalize hpre : ([a, b, c].take 3).flatMap (fun c => rowF c ++ endF c) = pre at q2
    have F₂ := fr_kst F₁ (ps := [(Str.ofString "cells", .ref ca), (Str.ofString "text", .str (S pre) tx)]) (by simp only [List.forall_mem_cons]; exact ⟨q1, q2, fun _ h => nomatch h⟩)
    have hpl : (S pre).length ≤ 100 := by
      have := rows_len ([a, b, c].take 3)
      rw [hpre] at this
      have h2 : ([a, b, c].take 3).length ≤ 3 := by rw [List.length_take]; simp
      show pre.length ≤ 100
      first | lia | omega
    clear F₁
    k_steps
    have e : S pre ++ Txt.mul (Str.ofString ".") (((a : Int) + (b + (c + 0))).fmod 2) = S (textF [a, b, c]) := by
      have e1 : ((a : Int) + (b + (c + 0))).fmod 2 = (((a + (b + (c + 0))) % 2 : Nat) : Int) := fmod_nat (a + (b + (c + 0))) 2
      have e2 : Txt.mul (Str.ofString ".") (((a + (b + (c + 0))) % 2 : Nat) : Int) = S (List.replicate ((a + (b + (c + 0))) % 2) 46) := by
        rw [dot1]
        have := mul_one_list 46 (((a + (b + (c + 0))) % 2 : Nat) : Int)
        rw [Int.toNat_natCast] at this
        show Txt.mul ⟨#[46]⟩ _ = _
        rw [← this]
      rw [e1, e2, S_app, ← hpre]
      rfl
    rw [e]
    exact hret _ _ _ (by k_asm) (by k_asm)
end
theorem w2_Tt : True := by
  k_with_none
  trivial
end Mine
theorem Mine.wend_Tt : True := by
  k_with_none
  trivial
namespace Mine
open PyProof.Rows.LCg
theorem sumE_take (toks : List (List Nat)) (i : Nat) : sumE (toks.take i) ≤ sumE toks := by
  have := sumE_app (toks.take i) (toks.drop i)
  rw [List.take_append_drop] at this
  first | lia | omega
theorem sumE_step {toks : List (List Nat)} {i : Nat} {t : List Nat} (h : toks[i]? = some t) : sumE (toks.take i) + nE t ≤ sumE toks := by
  have := sumE_take toks (i + 1)
  rw [take_snoc h, sumE_app] at this
  have e : sumE [t] = nE t := by simp [sumE]
  first | lia | omega
theorem texts_bound {toks : List (List Nat)} (h : sumE toks ≤ 3) (i : Nat) : ((toks.take i).foldl textsStep [[]]).length ≤ 27 := by
  rw [fold_len]
  have := sumE_take toks i
  have h3 : 3 ^ sumE (toks.take i) ≤ 3 ^ 3 := Nat.pow_le_pow_right (by decide) (by first | lia | omega)
  simp
  first | lia | omega
theorem texts_each {toks : List (List Nat)} (h : toks.flatten.length ≤ 1000) (i : Nat) : ∀ x ∈ (toks.take i).foldl textsStep [[]], x.length ≤ 1000 := by
  intro x hx
  have h1 := fold_each (toks.take i) [[]] 0 (by simp) x hx
  have h2 : (toks.take i).flatten.length ≤ toks.flatten.length := by
    have e : toks.flatten = (toks.take i).flatten ++ (toks.drop i).flatten := by rw [← List.flatten_append, List.take_append_drop]
    rw [e, List.length_append]; first | lia | omega
  first | lia | omega
theorem tok_len {toks : List (List Nat)} {t : List Nat} (h : t ∈ toks) : t.length ≤ toks.flatten.length := by
  induction toks with
  | nil => cases h
  | cons x xs ih =>
    rw [List.flatten_cons, List.length_append]
    cases h with
    | head => first | lia | omega
    | tail _ h => have := ih h; first | lia | omega
theorem e10 : Str.ofString "\n" = S [10] := by decide +kernel
theorem e13 : Str.ofString "\r" = S [13] := by decide +kernel
theorem e1310 : Str.ofString "\r\n" = S [13, 10] := by decide +kernel
theorem S_app2 (a b : List Nat) : S a ++ S b = S (a ++ b) := by
  show (⟨a.toArray ++ b.toArray⟩ : Str) = _
  congr 1
  apply Array.ext'
  simp
section
theorem w1_Tx2 : True := by
  k_with_none
  (k_with "k_room" => first | exact Nat.le_of_ble_eq_true rfl | exact rm (b := 1) hdp (by decide) | exact rm (b := 2) hdp (by decide) | exact rm (b := 3) hdp (by decide) | exact rm (b := 4) hdp (by decide) | exact rm (b := 5) hdp (by decide) | exact rm (b := 6) hdp (by decide) | exact rm (b := 7) hdp (by decide) | exact rm (b := 8) hdp (by decide) | exact rm (b := 9) hdp (by decide) | exact rm (b := 10) hdp (by decide) | exact rm (b := 11) hdp (by decide) | exact rm (b := 12) hdp (by decide) | exact rm (b := 13) hdp (by decide) | exact rm (b := 14) hdp (by decide) | exact rm (b := 15) hdp (by decide) | exact rm (b := 16) hdp (by decide) | exact rm (b := 17) hdp (by decide) | exact rm (b := 18) hdp (by decide) | exact rm (b := 19) hdp (by decide) | exact rm (b := 20) hdp (by decide) | exact rm (b := 21) hdp (by decide) | exact rm (b := 22) hdp (by decide) | exact rm (b := 23) hdp (by decide) | exact rm (b := 24) hdp (by decide) | exact rm (b := 25) hdp (by decide) | exact rm (b := 1) hu (by decide) | exact rm (b := 3) hu (by decide) | exact rm (b := 4) hu (by decide) | exact rm (b := 7) hu (by decide) | exact rm (b := 19) hu (by decide) | exact rm (b := 23) hu (by decide) | exact rm (b := 35) hu (by decide) | exact rm (b := 39) hu (by decide) | exact rm (b := 51) hu (by decide) | exact rm (b := 55) hu (by decide) | exact rm (b := 64) hu (by decide) | exact rm (b := 67) hu (by decide) | exact rm (b := 71) hu (by decide) | exact rm (b := 83) hu (by decide) | exact rm (b := 87) hu (by decide) | exact rm (b := 99) hu (by decide) | exact rm (b := 103) hu (by decide) | exact rm (b := 115) hu (by decide) | exact rm (b := 119) hu (by decide) | exact rm (b := 131) hu (by decide) | exact rm (b := 135) hu (by decide) | exact rm (b := 147) hu (by decide) | exact rm (b := 151) hu (by decide) | exact rm (b := 163) hu (by decide) | exact rm (b := 167) hu (by decide) | exact rm (b := 179) hu (by decide) | exact rm (b := 183) hu (by decide) | exact rm (b := 195) hu (by decide) | exact rm (b := 199) hu (by decide) | exact rm (b := 211) hu (by decide) | exact rm (b := 215) hu (by decide) | exact rm (b := 227) hu (by decide) | exact rm (b := 231) hu (by decide) | exact rm (b := 243) hu (by decide) | exact rm (b := 247) hu (by decide) | exact rm (b := 259) hu (by decide) | exact rm (b := 263) hu (by decide) | exact rm (b := 275) hu (by decide) | exact rm (b := 279) hu (by decide) | exact rm (b := 291) hu (by decide) | exact rm (b := 295) hu (by decide) | exact rm (b := 307) hu (by decide) | exact rm (b := 311) hu (by decide) | exact rm (b := 323) hu (by decide) | exact rm (b := 327) hu (by decide) | exact rm (b := 339) hu (by decide) | exact rm (b := 343) hu (by decide) | exact rm (b := 355) hu (by decide) | exact rm (b := 371) hu (by decide) | exact rm (b := 387) hu (by decide) | ktr_room | ktr_units)
  (k_with "execs cons" => (k_here; k_fold))
  (k_with "execs cons" => (k_here; refine gen_tk ?_; intro tk8))
  (k_with "eval Constant str" => (k_here; refine const_str ?_; intro t8 tk8))
  (k_with "eval Constant int" => (k_here; refine const_int ?_; intro t8 tk8))
  (k_with "exec For Name Name cons nil" => (k_here; refine hold_of ?_))
  (k_with "exec For Name Call cons nil" => (k_here; refine hold_of ?_))
  (k_with "exec Assign cons ListComp" => (k_here; refine hold_of ?_))
  (k_with "compareOp In str str" => (k_here; refine' in_isS ?e ?_; (case e => first | with_reducible assumption | exact (show _ = true by decide +kernel) | exact (show _ = false by decide +kernel))))
  (k_with "call ref" => (k_here; (with_reducible show wpAny _ _ (PySem.call (Value.ref 776) [Value.str _ _]) _ _ _); (k_dflt (refine' word_c _ _ _ _ _ _ _ _ _ _ _ _ _ _ _ _ _ _ _ _ _ _ _ _ _ _ ?k1 ?k2 ?k3 ?k4 ?k5 ?kK ?kp ?kd ?ku ?_; (case k1 => k_asm); (case k2 => k_asm); (case k3 => k_asm); (case k4 => k_asm); (case k5 => k_asm); (case kK => exact rfl); (case kp => first | lia | omega); (case kd => k_room); (case ku => k_room); intro t9 h9 tk9 F9 N9; (try dsimp only); (try k_fold)))))
  (k_with "binaryOp Add str str" => (k_here; (refine SBL.add (hsz := ?hsz) ?_); (case hsz => (rw [sizeLine_eq]; first | lia | omega)); intro _ _ _))
  (k_with "CompSrc" => (k_here; refine hold_of ?_))
  (k_with "k_all" => assumption)
  trivial
theorem texts_c (w : World) (news : List (Addr × Obj)) (ta : Nat) (tvs : List Value) (nt : Nat) (toks : List (List Nat)) : MyCl w 788 16 ((ta, listOf tvs.toArray nt) :: news) (Are IsS tvs toks ∧ (∀ t ∈ toks, t ≠ []) ∧ sumE toks ≤ 3 ∧ toks.flatten.length ≤ 1000 ∧ toks.length ≤ 1000) [Value.ref ta]
    (fun h₀ L m s Q => ∀ (D : Nat) (ys : List Value) (k : Nat) (h' : Heap) (tk' : Nat), Are IsS ys (textsF toks) → Fr h₀ L h' m → News h₀ L h' ((D, listOf ys.toArray k) :: (ta, listOf tvs.toArray nt) :: news) → Q (.ref D) { s with heap := h', toks := tk' }) := by
  dsimp only [MyCl]; k_fill; intros
  rename_i loose mean mg mb dp un gd cn cs aa ccd cl outer A₀ base h₀ L m s Q E B0 F0 X0 N0 T0 kk hpre hdp hu hret
  obtain ⟨hA, hne, hE3, hfl, htl⟩ := hpre
  refine wpAny_call ?_
  k_dflt (refine' code_defC ?k1 ?k2 ?k3 ?k4 ?k5 ?kA ?kF ?kK ?k6 ?k7 ?k8 ?k9 ?kB ?kD ?_ ?c2 ?c3 ?c4; (case kA => exact rfl); (case kF => exact rfl); (case kK => assumption); (case k1 => k_asm); (case k2 => k_asm); (case k3 => k_asm); (case k4 => k_asm); (case k5 => k_asm); (case k6 => k_is); (case k7 => k_is); (case k8 => k_room); (case k9 => exact BindsTo.of_eq rfl); (case kB => exact rfl); (case kD => decide +kernel); (case c2 => exact rfl); (case c3 => exact rfl); (case c4 => exact rfl); k_whole; intro g L' hh tk0 cells' FG F N Y' B X T l1; (try k_lt l1); k_cells Y'; (try simp only [List.cons_append, List.nil_append] at N); (try dsimp only); (try k_lift B); (try k_fold))
  k_steps
  unfold Hold
  have hcn : ∀ p ∈ news, p.1 ≠ L' + 1 := fun p hp => Nat.ne_of_lt (Nat.lt_succ_of_lt (allLt_mem l1.2 p hp))
  have hct : ta ≠ L' + 1 := Nat.ne_of_lt (Nat.lt_succ_of_lt l1.1)
  refine for_any (h₀ := g) ?_ (hE := by with_unfolding_all passes_own)
  k_steps
  refine' Or.inl ⟨ta, _, _, nt, _, _, fun i m' nw => ∃ (Tx : Nat) (ys : List Value) (k : Nat) (oc : Obj) (cv : Option Value), oc.data = .cell cv ∧ Are IsS ys ((toks.take i).foldl textsStep [[]]) ∧ i ≤ toks.length ∧ m' (Str.ofString "tokens") = some (.ref ta) ∧ m' (Str.ofString "texts") = some (.ref Tx) ∧ Tx ≠ L' + 1 ∧
      nw = (Tx, listOf ys.toArray k) :: (L' + 1, oc) :: (ta, listOf tvs.toArray nt) :: news, rfl, rfl, rfl, rfl, Or.inr (fun i m' nw hJ => by obtain ⟨_, _, _, _, _, _, _, _, _, _, _, rfl⟩ := hJ; exact .tail _ (.tail _ (.head _))), ?F, ?N, ?J0, ?turn, ?done⟩
  case F => k_asm
  case N => k_asm
  case J0 => exact ⟨_, [.str (Str.ofString "") _], _, _, _, by assumption, .cons ⟨_, rfl⟩ .nil, Nat.zero_le _, rfl, rfl, by first | lia | omega, rfl⟩
  case turn =>
    clear hret
    rintro i v m₁ news₁ I oI s₁ hP ⟨Tx, ys, k, oc, cv, hoc, hys, hil, q1, q2, hTx, rfl⟩ F₁ N₁ off
    have hIc : I ≠ L' + 1 := Ne.symm (off (L' + 1, oc) (.tail _ (.head _)))
    obtain ⟨t, ht, tt, rfl⟩ := hA.getA (by simpa using hP)
    have htm := List.mem_of_getElem? ht
    obtain ⟨c0, r0, rfl⟩ : ∃ c0 r0, t = c0 :: r0 := by
      cases t with
      | nil => exact absurd rfl (hne _ htm)
      | cons c r => exact ⟨c, r, rfl⟩
    have F₂ := fr_kst F₁ (ps := [(Str.ofString "tokens", .ref ta), (Str.ofString "texts", .ref Tx)]) (by simp only [List.forall_mem_cons]; exact ⟨q1, q2, fun _ h => nomatch h⟩)
    clear F₁
    have qc : Txt.contains (Str.ofString "\r\n") (Txt.item (S (c0 :: r0)) 0) = isEnd c0 := by rw [S_item, contains_crlfS]
    have htl' : (c0 :: r0).length ≤ 1000 := Nat.le_trans (tok_len htm) hfl
    have hr0 : r0.length ≤ 1000 := by simp at htl'; first | lia | omega
    have hlr : (S (c0 :: r0)).length = r0.length + 1 := rfl
    cases hc : isEnd c0 with
    | true =>
      rw [hc] at qc
      have hrn : isRun (c0 :: r0) = true := hc
      have hnE : (c0 :: r0).length / 2 ≤ 3 := by
        have := sumE_step ht
        rw [nE, if_pos hrn] at this
        first | lia | omega
      have eb : ((S (c0 :: r0)).length : Int).fdiv 2 = (((c0 :: r0).length / 2 : Nat) : Int) := by
        show (((c0 :: r0).length : Nat) : Int).fdiv 2 = _
        rw [Int.fdiv_eq_ediv_of_nonneg _ (by decide)]; rfl
      have hstep : (toks.take (i + 1)).foldl textsStep [[]] = iterE ((c0 :: r0).length / 2) ((toks.take i).foldl textsStep [[]]) := by
        rw [take_snoc ht, List.foldl_append]
        show textsStep _ _ = _
        rw [textsStep, if_pos hrn]
      have htb := texts_bound hE3 i
      have hte := texts_each hfl i
      generalize (toks.take i).foldl textsStep [[]] = txs at hys hstep htb hte
      k_steps
      unfold Hold
      refine for_any (h₀ := g) ?_ (hE := by with_unfolding_all passes_own)
      k_steps
      rename_i h2 oc2 F2 N2 d2 _ _ _ _ _ _ _ _ _ _ _ _ _ _ _ _
      refine' Or.inr ⟨_, ((S (c0 :: r0)).length : Int).fdiv 2, _, _, _, (c0 :: r0).length / 2, _, _, fun j m' nw => ∃ (Tx2 : Nat) (ys2 : List Value) (k2 : Nat), j ≤ 3 ∧ Are IsS ys2 (iterE j txs) ∧ m' (Str.ofString "tokens") = some (.ref ta) ∧ m' (Str.ofString "texts") = some (.ref Tx2) ∧ Tx2 ≠ L' + 1 ∧ Tx2 ≠ I ∧
        nw = (Tx2, listOf ys2.toArray k2) :: (I, oI) :: (L' + 1, oc2) :: (ta, listOf tvs.toArray nt) :: news, rfl, rfl, ?rr, by rw [eb]; exact (range_fits hnE).1, by rw [eb]; exact (range_fits hnE).2, ?FF, ?NN, ?JJ0, ?turn2, ?done2⟩
      case rr => assumption
      case FF => k_asm
      case NN => exact cb_drop (news := (Tx, listOf ys.toArray k) :: (I, oI) :: (L' + 1, oc2) :: (ta, listOf tvs.toArray nt) :: news) (by assumption) (by kcj_all)
      case JJ0 => exact ⟨Tx, ys, k, by first | lia | omega, hys, rfl, rfl, hTx, off _ (.head _), rfl⟩
      case turn2 =>
        clear N2 F2
        rintro j vj m₂ news₂ I2 oI2 s₂ ⟨hjn, tj, rfl⟩ ⟨Tx2, ys2, k2, hj3, hys2, p1, p2, hTx2, hTxI, rfl⟩ F₃ N₃ off2
        have F₄ := fr_kst F₃ (ps := [(Str.ofString "tokens", .ref ta), (Str.ofString "texts", .ref Tx2)]) (by simp only [List.forall_mem_cons]; exact ⟨p1, p2, fun _ h => nomatch h⟩)
        clear F₃
        have hl2 : (iterE j txs).length * 3 ≤ 100000 := by
          rw [iterE_len]
          have : 3 ^ j ≤ 3 ^ 3 := Nat.pow_le_pow_right (by decide) hj3
          have h9 : 3 ^ j * txs.length ≤ 3 ^ 3 * 27 := Nat.mul_le_mul this htb
          first | lia | omega
        have he2 : ∀ x ∈ iterE j txs, x.length ≤ 2000 := fun x hx => by have := iterE_each j hte x hx; first | lia | omega
        k_steps
        unfold Hold
        refine Assign_nest (h₀ := g) (L := L') (F₀ := by k_asm) rfl (by with_unfolding_all rfl) (by with_unfolding_all rfl) (by decide) rfl (by decide) rfl rfl (by decide) rfl rfl ?_
        k_steps
        refine nest_from (P1 := fun l v => IsS l v ∧ l.length ≤ 2000) (P2 := fun l v => IsS l v ∧ l.length ≤ 2) (P3 := IsS) (as := iterE j txs) ends3 (fun a b => a ++ b) rfl (by k_asm) (by k_asm) (.inr ⟨_, by k_mem, rfl, _, rfl⟩) (hys2.with he2) hl2 ?inner2 ?each2 ?fin2
        case inner2 =>
          intro s' I' oI' C' oC' D' m₂ ys h tk E' hC F3 N3 off3
          k_steps
          rename_i F9 N9 l9
          exact inner_tup F9 N9 l9.1 l9.2.1 l9.2.2.1 (.cons ⟨⟨_, by rw [e10]⟩, by decide⟩ (.cons ⟨⟨_, by rw [e13]⟩, by decide⟩ (.cons ⟨⟨_, by rw [e1310]⟩, by decide⟩ .nil)))
        case each2 =>
          intro s' a b v u I' oI' C' oC' m' h tk rest E' hP1 hP2 hC hx hy F3 N3
          obtain ⟨⟨t1, rfl⟩, l1'⟩ := hP1
          obtain ⟨⟨t2, rfl⟩, l2'⟩ := hP2
          have l3 : (S a).length ≤ 2000 := l1'
          have l4 : (S b).length ≤ 2 := l2'
          k_steps
          exact ⟨_, _, rfl, by k_asm, by k_asm, ⟨_, congrArg (fun z => Value.str z _) (S_app2 _ _)⟩⟩
        case fin2 =>
          intro gg ys3 hA3
          unfold FinA
          intro D' h' tk' F5 N5 o5
          have o6 := off1_mem o5
          k_steps
          refine ⟨rfl, _, _, _, _, rfl, by k_asm, cb_drop (news := (I2, oI2) :: (D', listOf ys3.toArray _) :: (I, oI) :: (L' + 1, oc2) :: (ta, listOf tvs.toArray nt) :: news) (by k_asm) (by kcj_all), ?off3, D', ys3, _, by first | lia | omega, by rw [iterE_succ]; exact hA3, rfl, rfl, Ne.symm (o6 _ (.tail _ (.tail _ (.tail _ (.head _))))), Ne.symm (o6 _ (.tail _ (.tail _ (.head _)))), rfl⟩
          intro p hp
          rcases List.mem_cons.mp hp with rfl | hp
          · exact Ne.symm (o6 _ (.head _))
          · exact off2 _ (.tail _ hp)
      case done2 =>
        rintro h' tk' m₂ news₂ F₃ N₃ ⟨Tx2, ys2, k2, hj3, hys2, p1, p2, hTx2, hTxI, rfl⟩
        have F₄ := fr_kst F₃ (ps := [(Str.ofString "tokens", .ref ta), (Str.ofString "texts", .ref Tx2)]) (by simp only [List.forall_mem_cons]; exact ⟨p1, p2, fun _ h => nomatch h⟩)
        clear F₃
        k_steps
        refine ⟨rfl, _, _, _, (Tx2, listOf ys2.toArray k2) :: (L' + 1, oc2) :: (ta, listOf tvs.toArray nt) :: news, rfl, by k_asm, cb_drop (by k_asm) (by kcj_all), ?off4, Tx2, ys2, k2, oc2, _, d2, by rw [hstep]; exact hys2, List.getElem?_eq_some_iff.mp ht |>.1, rfl, rfl, hTx2, rfl⟩
        intro p hp
        rcases List.mem_cons.mp hp with rfl | hp
        · exact hTxI
        · rcases List.mem_cons.mp hp with rfl | hp
          · exact Ne.symm hIc
          · exact off _ (.tail _ (.tail _ hp))
    | false =>
      rw [hc] at qc
      have hnr : isRun (c0 :: r0) = false := hc
      have hlw : (S (wordF (c0 :: r0))).length ≤ 1000 := Nat.le_trans (wordF_len (c0 :: r0)) htl'
      k_steps
      unfold Hold
      refine Assign_ListComp_U (F₀ := by k_asm) rfl (by with_unfolding_all rfl) (by with_unfolding_all rfl) (by decide) rfl (by decide) rfl rfl rfl ?_
      k_steps
      unfold Hold
      refine one_from (P1 := fun l v => IsS l v ∧ l.length ≤ 1000) (P3 := IsS) (as := (toks.take i).foldl textsStep [[]]) (fun x => x ++ wordF (c0 :: r0)) rfl (by k_asm) (by k_asm) (by k_mem) (hys.with (texts_each hfl i)) (Nat.le_trans (texts_bound hE3 i) (by decide)) ?each ?fin
      case each =>
        intro s' a v ys' I' oI' C' oC' D' m₂ h tk E' hP hC hx F4 N4
        obtain ⟨⟨t1, rfl⟩, hal⟩ := hP
        have hal' : (S a).length ≤ 1000 := hal
        k_steps
        exact ⟨_, _, rfl, by k_asm, by k_asm, ⟨_, congrArg (fun z => Value.str z _) (S_app2 _ _)⟩⟩
      case fin =>
        intro gg ys2 hA2
        unfold FinA
        intro D' h' tk' F5 N5 o5
        have o6 := off1_mem o5
        have hstep : (toks.take (i + 1)).foldl textsStep [[]] = ((toks.take i).foldl textsStep [[]]).map fun x => x ++ wordF (c0 :: r0) := by
          rw [take_snoc ht, List.foldl_append]
          show textsStep _ _ = _
          rw [textsStep, if_neg (by rw [hnr]; simp)]
        k_steps
        refine ⟨rfl, _, _, _, _, rfl, by k_asm, cb_drop (news := (I, oI) :: (D', listOf ys2.toArray _) :: (L' + 1, _) :: (ta, listOf tvs.toArray nt) :: news) (by k_asm) (by kcj_all), ?off, D', ys2, _, _, _, by assumption, by rw [hstep]; exact hA2, List.getElem?_eq_some_iff.mp ht |>.1, rfl, rfl, Ne.symm (o6 _ (.tail _ (.tail _ (.head _)))), rfl⟩
        intro p hp
        rcases List.mem_cons.mp hp with rfl | hp
        · exact Ne.symm (o6 _ (.head _))
        · rcases List.mem_cons.mp hp with rfl | hp
          · exact Ne.symm hIc
          · exact off _ (.tail _ (.tail _ hp))
  case done =>
    rintro h' tk' m₁ news₁ F₁ N₁ ⟨Tx, ys, k, oc, cv, hoc, hys, hil, q1, q2, hTx, rfl⟩
    have F₂ := fr_kst F₁ (ps := [(Str.ofString "texts", .ref Tx)]) (by simp only [List.forall_mem_cons]; exact ⟨q2, fun _ h => nomatch h⟩)
    have hsz : tvs.toArray.size = toks.length := by rw [List.size_toArray]; exact hA.length
    rw [hsz, List.take_length] at hys
    clear F₁
    k_steps
    exact hret Tx ys k _ _ hys (by k_asm) (cb_drop (by k_asm) (by kcj_all))
end
theorem w2_Tx2 : True := by
  k_with_none
  trivial
end Mine
theorem Mine.wend_Tx2 : True := by
  k_with_none
  trivial
open PySem PySem.W PyProof.Rows PySem.Calls Builtin Builtin.ObjectAttr Builtin.Getset_descriptor
namespace Mine
theorem pk_made (w : World) : peek (MineH.KH w.params) ⟨P0, w.params⟩ (Bind.madeBy (.ref 609)) = some none := by kernel_rfl
theorem pk_here (w : World) : peek (MineH.KH w.params) ⟨P0, w.params⟩ (Bind.madeHere "object.__new__" (.ref 609)) = some () := by kernel_rfl
theorem pk_type (w : World) : peek (MineH.KH w.params) ⟨P0, w.params⟩ (isInstance (.ref 609) (.type "type")) = some true := by kernel_rfl
theorem pk_isT (w : World) : peek (MineH.KH w.params) ⟨P0, w.params⟩ (isType (.ref 609)) = some true := by kernel_rfl
theorem pk_call (w : World) : peek (MineH.KH w.params) ⟨P0, w.params⟩ (specialOf (.ref 609) "__call__") = some (some (.builtin "type.__call__")) := by kernel_rfl
theorem pk_init (w : World) : peek (MineH.KH w.params) ⟨P0, w.params⟩ (typeLookup (.ref 609) "__init__") = some (some (.ref 379)) := by kernel_rfl
theorem pk_sub (w : World) : peek (MineH.KH w.params) ⟨P0, w.params⟩ (isSubtype (.ref 609) (.ref 609)) = some true := by kernel_rfl
theorem pk_top (w : World) : peek (MineH.KH w.params) ⟨P0, w.params⟩ (isSubtype (.ref 609) (.type "object")) = some true := by kernel_rfl
theorem pk_mro (w : World) : peek (MineH.KH w.params) ⟨P0, w.params⟩ (mroOf (.ref 609)) = some [.ref 609, .ref 132, .ref 105, .type "object"] := by kernel_rfl
theorem pk_bind (w : World) : peek (MineH.KH w.params) ⟨P0, w.params⟩ (typeOf (.ref 379)) = some (.type "function") := by kernel_rfl
theorem pk_base (w : World) : peek (MineH.KH w.params) ⟨P0, w.params⟩ (Bind.staticBase (.ref 609)) = some (.type "object") := by kernel_rfl
theorem pk_om (w : World) : peek (MineH.KH w.params) ⟨P0, w.params⟩ (Bind.madeBy (.type "object")) = some (some "object.__new__") := by kernel_rfl
theorem obj609 (w : World) {h : Heap} : (MineH.KH w.params).In h → PySem.Challenge.rw_oc0215_01.prog = PySem.Challenge.rw_oc0215_01.prog → ∃ oc od cd sl, h.get? 609 = some ⟨oc, od, .cls cd, sl⟩ ∧ cd.abstract = false ∧ cd.hasDel = false ∧ cd.mro.isEmpty = false := by
  k_fill
  intro X _
  exact ⟨_, _, _, _, X 609 _ (by k_is), rfl, rfl, rfl⟩
section
variable {w : World} {A : Around} {R : Result → Shared → Prop} {h : Heap} {g : Array GenState} {d : Drawn} {t : Nat} {os : OsState}
theorem new609 (X : (MineH.KH w.params).In h) (hq : R (.ok (.ret (.ref (h.objs.size + 1)))) ⟨(h.push emptyDict).push (instObj 609 h.objs.size), g, d, t, os⟩) :
    codeAny (model P0 w) A (.call (.builtin "object.__new__") ⟨[.ref 609], []⟩) R ⟨h, g, d, t, os⟩ := by
  obtain ⟨oc, od, cd, sl, hC, e1, e2, e4⟩ := obj609 w X rfl
  have here := Looks.of_peek (M := model P0 w) X (pk_here w)
  have typ := Looks.of_peek (M := model P0 w) X (pk_type w)
  have isT := Looks.of_peek (M := model P0 w) X (pk_isT w)
  have top := Looks.of_peek (M := model P0 w) X (pk_top w)
  have base := Looks.of_peek (M := model P0 w) X (pk_base w)
  have om := Looks.of_peek (M := model P0 w) X (pk_om w)
  have made := Looks.of_peek (M := model P0 w) X (pk_made w)
  have F := PySem.F.objNew
  refine codeAny_call_builtin_code (Code.quiet_builtin _ F.quiet) ?_
  simp only [checkBuiltinCall, F.kind, F.split, F.row]
  have args : Bind.checkArgs "object.__new__" ⟨.hand, "object.__new__", "__new__", .cls, []⟩ ⟨[.ref 609], []⟩ = pure () := by kernel_rfl
  rw [args]
  repeat (first | simp only [bne_self_eq_false, Bool.false_eq_true, if_false] | lk)
  refine codeAny_builtin F.entry ?_
  unfold Builtin.«object.__new__»
  have fin : ∀ A', wpAny (model P0 w) A' (do
      let d ← if typeHasDict (.ref 609) then some <$> alloc { cls := .type "dict", data := .dict #[] } else pure none
      ret (← newObj (.ref 609) .plain d)) (fun fin s' => match fin with | .done f => R (.ok f) s' | .again c' => c'.quiet = true ∧ codeAny (model P0 w) A c' R s') (fun e s' => R (.error e) s') ⟨h, g, d, t, os⟩ := by
    intro A'
    show wpAny _ _ ((alloc emptyDict >>= fun x => pure (some x)) >>= _) _ _ _
    refine wpAny_bind (wpAny_bind (wpAny_alloc (wpAny_pure (wpAny_bind ?_))))
    show wpAny _ _ (newObjAsIs _ _ _) _ _ _
    unfold newObjAsIs classHasDel
    refine wpAny_bind (wpAny_alloc (wpAny_bind (wpAny_bind (wpAny_load (Heap.get?_push_of_some _ (Heap.get?_push_of_some _ hC)) (wpAny_pure ?_)))))
    rw [e2]
    refine wpAny_pure (wpAny_pure ?_)
    show R _ _
    rw [Heap.size_push]
    exact hq
  repeat (first | simp only [e1, Bool.false_eq_true, if_false] | exact fin _ | lk)
theorem cf1 (w : World) : typeIn (MineH.KH w.params) (.ref 609) = some (.type "type") := by kernel_rfl
theorem cf2 (w : World) : readsIn (MineH.KH w.params) 609 (.type "type") = true := by kernel_rfl
theorem cf3 (w : World) : findCls (MineH.KH w.params) (.ref 609) (.type "type") "__new__" = some (.get (.builtin "staticmethod.__get__") (.ref 106) .none (.ref 609)) := by kernel_rfl
theorem cf4 (w : World) : recIn (MineH.KH w.params) 106 "staticmethod" = some [.ref 102] := by kernel_rfl
theorem cf5 : handedIn (.ref 102) = true := by kernel_rfl
theorem make609 {s : Shared} {h₀ : Heap} {L : Addr} {m : Str → Option Value} {rest : List Value} {kw : List (Str × Value)} (F : Fr h₀ L s.heap m) (X₀ : (MineH.KH w.params).In h₀)
    (hcall : ∀ A', A' = A.under (.builtin "type.__call__" ⟨.ref 609 :: rest, kw⟩) → wpAny (model P0 w) A' (call (.ref 102) (.ref 609 :: rest) kw) (fun obj s' => ∃ x o, obj = .ref x ∧ s'.heap.get? x = some (instObj 609 o) ∧ (MineH.KH w.params).In s'.heap ∧
      codeAny (model P0 w) A' (.call (.ref 379) ⟨.ref x :: rest, kw⟩) (InitBack x R) s') (fun e s' => R (.error e) s') { s with toks := s.toks + 1 }) :
    codeAny (model P0 w) A (.call (.ref 609) ⟨rest, kw⟩) R s := by
  have X := X₀.keeps F.keep
  obtain ⟨oc, od, cd, sl, hC, e1, e2, e4⟩ := obj609 w X rfl
  have typ := Looks.of_peek (M := model P0 w) X (pk_type w)
  have made := Looks.of_peek (M := model P0 w) X (pk_made w)
  have call := Looks.of_peek (M := model P0 w) X (pk_call w)
  have hm := Looks.of_peek (M := model P0 w) X (pk_mro w)
  refine codeAny_of_tree ?_
  show wpAny _ _ (callAny (.ref 609) _) _ _ _
  refine nd_load hC ?_
  show wpAny _ _ (callAny.viaDunder (.ref 609) _) _ _ _
  unfold callAny.viaDunder
  refine wpAny_bind (call.at ?_)
  dsimp only
  rw [tc_bind]
  refine wpAny_bind (wpAny_pure (wpAny_bind (wpAny_pure ?_)))
  refine wpAny_pure (a := Fin.again (.call (.builtin "type.__call__") ⟨.ref 609 :: rest, kw⟩)) (And.intro rfl ?_)
  refine codeAny_call_builtin_at (Code.quiet_builtin _ (by decide +kernel)) entry_typeCall (check_slot tc_kind tc_split typ (tc_args _ _ _) ?_)
  unfold Builtin.«type.__call__»
  repeat (first | (with_reducible refine cls_sm F X₀ (cf1 w) (cf2 w) (cf3 w) (cf4 w) cf5 ?_) | (with_reducible refine wpAny_mono (hcall _ rfl) ?_ (fun _ _ e => e)) | lk)
  rintro obj s' ⟨x, o, rfl, hx, X', hq⟩
  have t1 : Looks (model P0 w) s'.heap (typeOf (.ref x)) (.ref 609) := (Looks.ld hx).andThen .now
  have s1 := Looks.of_peek (M := model P0 w) X' (pk_sub w)
  have i1 := Looks.of_peek (M := model P0 w) X' (pk_init w)
  have b1 : Looks (model P0 w) s'.heap (bindSpecial (.ref 379) (.ref x)) (.ref 379, [.ref x]) := bind_fn X' (.ref x) (by kernel_rfl)
  unfold isInstance callSpecial? specialOf
  repeat (first | with_reducible refine wpAny_call ?_ | lk)
  refine codeAny_mono hq fun r s' z => ?_
  rcases r with e | (v | _ | _ | _) <;> first | exact z | exact z.elim | skip
  obtain ⟨rfl, z⟩ := z
  exact wpAny_pure (wpAny_pure z)
end
end Mine
namespace Mine
section
theorem w1_Nw : True := by
  k_with_none
  (k_with "k_room" => first | exact Nat.le_of_ble_eq_true rfl | exact rm (b := 1) hdp (by decide) | exact rm (b := 2) hdp (by decide) | exact rm (b := 3) hdp (by decide) | exact rm (b := 4) hdp (by decide) | exact rm (b := 5) hdp (by decide) | exact rm (b := 6) hdp (by decide) | exact rm (b := 7) hdp (by decide) | exact rm (b := 8) hdp (by decide) | exact rm (b := 9) hdp (by decide) | exact rm (b := 10) hdp (by decide) | exact rm (b := 11) hdp (by decide) | exact rm (b := 12) hdp (by decide) | exact rm (b := 13) hdp (by decide) | exact rm (b := 14) hdp (by decide) | exact rm (b := 15) hdp (by decide) | exact rm (b := 16) hdp (by decide) | exact rm (b := 17) hdp (by decide) | exact rm (b := 18) hdp (by decide) | exact rm (b := 19) hdp (by decide) | exact rm (b := 20) hdp (by decide) | exact rm (b := 21) hdp (by decide) | exact rm (b := 22) hdp (by decide) | exact rm (b := 23) hdp (by decide) | exact rm (b := 24) hdp (by decide) | exact rm (b := 25) hdp (by decide) | exact rm (b := 1) hu (by decide) | exact rm (b := 3) hu (by decide) | exact rm (b := 4) hu (by decide) | exact rm (b := 7) hu (by decide) | exact rm (b := 19) hu (by decide) | exact rm (b := 23) hu (by decide) | exact rm (b := 35) hu (by decide) | exact rm (b := 39) hu (by decide) | exact rm (b := 51) hu (by decide) | exact rm (b := 55) hu (by decide) | exact rm (b := 64) hu (by decide) | exact rm (b := 67) hu (by decide) | exact rm (b := 71) hu (by decide) | exact rm (b := 83) hu (by decide) | exact rm (b := 87) hu (by decide) | exact rm (b := 99) hu (by decide) | exact rm (b := 103) hu (by decide) | exact rm (b := 115) hu (by decide) | exact rm (b := 119) hu (by decide) | exact rm (b := 131) hu (by decide) | exact rm (b := 135) hu (by decide) | exact rm (b := 147) hu (by decide) | exact rm (b := 151) hu (by decide) | exact rm (b := 163) hu (by decide) | exact rm (b := 167) hu (by decide) | exact rm (b := 179) hu (by decide) | exact rm (b := 183) hu (by decide) | exact rm (b := 195) hu (by decide) | exact rm (b := 199) hu (by decide) | exact rm (b := 211) hu (by decide) | exact rm (b := 215) hu (by decide) | exact rm (b := 227) hu (by decide) | exact rm (b := 231) hu (by decide) | exact rm (b := 243) hu (by decide) | exact rm (b := 247) hu (by decide) | exact rm (b := 259) hu (by decide) | exact rm (b := 263) hu (by decide) | exact rm (b := 275) hu (by decide) | exact rm (b := 279) hu (by decide) | exact rm (b := 291) hu (by decide) | exact rm (b := 295) hu (by decide) | exact rm (b := 307) hu (by decide) | exact rm (b := 311) hu (by decide) | exact rm (b := 323) hu (by decide) | exact rm (b := 327) hu (by decide) | exact rm (b := 339) hu (by decide) | exact rm (b := 343) hu (by decide) | exact rm (b := 355) hu (by decide) | exact rm (b := 371) hu (by decide) | exact rm (b := 387) hu (by decide) | ktr_room | ktr_units)
  (k_with "execs cons" => (k_here; k_fold))
  (k_with "execs cons" => (k_here; refine gen_tk ?_; intro tk8))
  (k_with "eval Constant str" => (k_here; refine const_str ?_; intro t8 tk8))
  (k_with "eval Constant int" => (k_here; refine const_int ?_; intro t8 tk8))
  trivial
theorem new_c (w : World) (news : List (Addr × Obj)) (x : Str) (t : Tok) : MyCl w 102 8 news True [Value.ref 609, Value.str x t]
    (fun h₀ L m s Q => ∀ (x dx : Nat) (h' : Heap) (tk' : Nat), Fr h₀ L h' m → News h₀ L h' ((x, instObj 609 dx) :: (dx, dictOf [] 0) :: news) → (∀ p ∈ news, p.1 < dx) → dx < x → Q (.ref x) { s with heap := h', toks := tk' }) := by
  dsimp only [MyCl]; k_fill; intros
  rename_i loose mean mg mb dp un gd cn cs aa ccd cl outer A₀ base h₀ L m s Q E B0 F0 X0 N0 T0 kk hpre hdp hu hret
  refine wpAny_call ?_
  k_dflt (refine' kp_both ?k1 ?k2 ?k3 ?k4 ?k5 ?kA ?kF ?kK ?k6 ?k7 ?k8 ?kV ?kX ?kQ ?kM ?kN ?kD ?kR ?kP ?kS ?kT ?kB ?_ ?c2 ?c3 ?c4 ?c5; (case kA => exact rfl); (case kF => exact rfl); (case kK => assumption); (case k1 => k_asm); (case k2 => k_asm); (case k3 => k_asm); (case k4 => k_asm); (case k5 => k_asm); (case k6 => k_is); (case k7 => k_is); (case k8 => k_room); (case kV => kp_lit); (case kX => kp_lit); (case kQ => exact rfl); (case kM => exact rfl); (case kN => exact rfl); (case kD => kp_flats); (case kR => exact rfl); (case kP => exact rfl); (case kS => exact fun _ => rfl); (case kT => exact fun _ _ => rfl); (case kB => exact fun _ _ => locs rfl); (case c5 => decide); (case c2 => exact rfl); (case c3 => exact rfl); (case c4 => exact rfl); k_whole; intro C' D' o' g' L' h' tk' l1 l2 lo' hs' fs' FG' F' N' B' X' T'; (try k_lt l1); (try k_lt2 l2); (try dsimp only); (try k_lift B'); (try k_fold))
  k_steps
  refine wpAny_call (new609 (X'.keeps (Fr.keep (by k_asm))) ?_)
  show LeaveK _ _ _ _ _ _ _
  have N9 := (N'.push F' emptyDict).push (F'.push _) (instObj 609 h'.objs.size)
  rw [Heap.size_push] at N9
  refine ⟨L', _, (h'.objs.size + 1, instObj 609 h'.objs.size) :: (h'.objs.size, dictOf [] 0) :: news, (F'.push _).push _, cb_drop N9 (by kcj_all), fun F8 N8 => ?_⟩
  exact hret _ _ _ _ F8 N8 (fun p hp => Heap.lt_size (N' p (.tail _ (.tail _ hp))).1) (Nat.lt_succ_self _)
theorem w2_Nw : True := by
  (k_with "cell_enter" => (refine' code_def ?k1 ?k2 ?k3 ?k4 ?k5 ?kA ?kF ?kK ?k6 ?k7 ?k8 ?k9 ?kB ?_ ?c2 ?c3 ?c4 ?c5; (case kA => exact rfl); (case kF => exact rfl); (case kK => assumption); (case k1 => k_asm); (case k2 => k_asm); (case k3 => k_asm); (case k4 => k_asm); (case k5 => k_asm); (case k6 => k_is); (case k7 => k_is); (case k8 => k_room); (case k9 => first | exact BindsTo.of_eq rfl | exact binds_K (by k_in) rfl (by k_is) rfl rfl rfl | exact kp_binds (by k_in) (fun _ => by kernel_rfl)); (case c5 => decide); (case kB => exact locs rfl); (case c2 => exact rfl); (case c3 => exact rfl); (case c4 => exact rfl); k_whole; intro g' L' h' FG' F' N' B' X' T'; (try dsimp only); (try k_lift B'); (try k_fold)))
  trivial
theorem sio_c (w : World) (news : List (Addr × Obj)) (x : Str) (t : Tok) : MyCl w 609 16 news (x.length ≤ 10000) [Value.str x t]
    (fun h₀ L m s Q => ∀ (sio dsio : Nat) (t1 t2 t3 t4 t5 t6 : Tok) (h' : Heap) (tk' : Nat), Fr h₀ L h' m → News h₀ L h' ((dsio, sioD w t1 t2 t3 t4 t5 t6 x 0) :: (sio, inst 609 dsio) :: news) → (∀ p ∈ news, p.1 < dsio) → dsio < sio → Q (.ref sio) { s with heap := h', toks := tk' }) := by
  dsimp only [MyCl]; k_fill; intros
  rename_i loose mean mg mb dp un gd cn cs aa ccd cl outer A₀ base h₀ L m s Q E B0 F0 X0 N0 T0 kk hpre hdp hu hret
  refine wpAny_call (make609 F0 X0 ?_)
  rintro A' rfl
  have hwt : (Code.builtin "type.__call__" { pos := [Value.ref 609, Value.str x t] }).weight ≤ 2 := Nat.le_of_ble_eq_true rfl
  have hcu : (Code.builtin "type.__call__" { pos := [Value.ref 609, Value.str x t] }).cUnits ≤ 20 := Nat.le_of_ble_eq_true rfl
  k_dflt (refine' new_c _ _ _ _ _ _ _ _ _ _ _ _ _ _ _ _ _ _ _ _ _ _ _ _ _ ?k1 ?k2 ?k3 ?k4 ?k5 ?kK ?kp ?kd ?ku ?_; (case k1 => exact B0); (case k2 => exact F0); (case k3 => exact X0); (case k4 => exact N0); (case k5 => exact T0); (case kK => exact kk); (case kp => trivial); (case kd => k_room); (case ku => k_room))
  intro sio dsio h1 tk1 F1 N1 hlo hlt
  refine ⟨sio, dsio, rfl, (N1 _ (.head _)).1, X0.keeps F1.keep, ?_⟩
  k_dflt cell_enter
  refine let_A ?_
  intro A1
  k_steps
  exact hret sio dsio _ _ _ _ _ _ _ _ (by k_asm) (cb_drop (by k_asm) (by kcj_all)) hlo hlt
end
theorem w3_Nw : True := by
  k_with_none
  trivial
end Mine
theorem Mine.wend_Nw : True := by
  k_with_none
  trivial
open PySem PySem.W PyProof.Rows PySem.Builtin
namespace Mine
theorem sub_key_lookup : isSubtype (.type "KeyError") (.type "LookupError") = pure true := by rw [isSubtype_type]; kernel_rfl
theorem entry_translate : entryFor table "str.translate" = some Builtin.«str.translate» := entryFor_of_tree (by kernel_rfl)
section
variable {prog : Program} {w : World} {A : Around} {E : Value → Shared → Prop} {s : Shared} {d : Addr} {f : Int → Option Value}
theorem table_keep {c : Nat} {Q : Str.Mapped → Shared → Prop} (hh : A.handled = none) (lo : (d == sysModules) = false) (hm : s.heap.MapOf (intKind prog w) d f) (hf : f c = none)
    (h : ∀ h' tk, (∀ b o, s.heap.get? b = some o → h'.get? b = some o) → Q .keep { s with heap := h', toks := tk }) : wpAny (model prog w) A (Str.tableLookup (.ref d) c) Q E s := by
  unfold Str.tableLookup
  refine wpAny_bind (wpAny_attempt (wpAny_bind (wpAny_mkInt ?_)))
  refine wpAny_getItem_missing_of (intKind_is prog w c _) lo hh hm hf ?_
  intro h' e hx
  obtain ⟨ob, tp, he, hcls, hdat⟩ := hx.there
  show wpAny _ _ (isInstance (.ref e) (.type "LookupError") >>= _) _ _ _
  unfold isInstance
  refine wpAny_bind (wpAny_bind (wpAny_typeOf ⟨ob, he, hcls⟩ ?_))
  refine wpAny_of_eq sub_key_lookup ?_
  exact wpAny_bind (wpAny_rule (wpAny_pure (h _ _ hx.keeps)))
theorem call_translate {x : PySem.Str} {t : Tok} {Q : Value → Shared → Prop} (hh : A.handled = none) (lo : (d == sysModules) = false) (hm : s.heap.MapOf (intKind prog w) d f) (hf : ∀ c ∈ x.cps.toList, f c = none) (hl : x.length ≤ 1000) (hl0 : 0 < x.length) (ha : x.cps.all (· < 128) = true)
    (h : ∀ t' h' tk, (∀ b o, s.heap.get? b = some o → h'.get? b = some o) → Q (.str x t') { s with heap := h', toks := tk }) :
    wpAny (model prog w) A (call (.builtin "str.translate") [.str x t, .ref d]) Q E s := by
  refine wpAny_call_entry (T := "str") PySem.F.slot_str_translate rfl entry_translate ?_ (PySem.F.args_str_translate_2 _ _)
  unfold Builtin.«str.translate»
  refine wpAny_bind (m := Str.strOneArg "translate" _) (wpAny_pure ?_)
  dsimp only
  have hl0' : ¬ (x.length == 0) = true := by simp; first | lia | omega
  rw [if_neg hl0', ha]
  refine wpAny_bind (forIn_array_ _ (fun (rest : List Nat) (b : List PySem.Str × Nat × Bool × List (Nat × Option Nat) × Bool) s' => b.2.2.1 = true ∧ b.2.1 ≤ 1000 - rest.length ∧ rest.length ≤ 1000 ∧ (∀ c a, b.2.2.2.1.lookup c = some a → a = some c) ∧ (∃ dn : List Nat, dn ++ rest = x.cps.toList ∧ b.1.reverse = dn.map fun c => (⟨#[c]⟩ : PySem.Str)) ∧ (∀ c ∈ rest, f ((c : Nat) : Int) = none) ∧
    ∃ h' tk, s' = { s with heap := h', toks := tk } ∧ ∀ b o, s.heap.get? b = some o → h'.get? b = some o) _ ?turn ?fin x.cps _ ⟨rfl, Nat.zero_le _, by rw [Array.length_toList]; exact hl, (fun _ _ e => by cases e), ⟨[], rfl, rfl⟩, hf, s.heap, s.toks, rfl, fun _ _ e => e⟩)
  case turn =>
    rintro c rest ⟨pieces, total, fast, known, ad⟩ s' ⟨h1, h2, h3, h4, ⟨dn, h5, h6⟩, h7, h', tk, rfl, h8⟩
    dsimp only at h1 h2 h4 h6
    subst h1
    have ht : ¬ Str.tooLong total = true := by rw [short24 (by first | lia | omega)]; simp
    have hr : rest.length + 1 ≤ 1000 := by simpa using h3
    have h2' : total ≤ 1000 - (rest.length + 1) := by simpa using h2
    dsimp only
    rw [if_neg ht, if_pos rfl]
    have hdn : (dn ++ [c]) ++ rest = x.cps.toList := by rw [← h5]; simp
    have hpc : ((⟨#[c]⟩ : PySem.Str) :: pieces).reverse = (dn ++ [c]).map fun c => (⟨#[c]⟩ : PySem.Str) := by rw [List.reverse_cons, h6]; simp
    cases hk : known.lookup c with
    | some a =>
      have := h4 c a hk
      subst this
      refine wpAny_bind (wpAny_pure ?_)
      exact wpAny_pure ⟨rfl, by show total + 1 ≤ _; first | lia | omega, by first | lia | omega, h4, ⟨_, hdn, hpc⟩, fun c' hc' => h7 c' (.tail _ hc'), h', tk, rfl, h8⟩
    | none =>
      have hm' : h'.MapOf (intKind prog w) d f := by
        obtain ⟨o, es, ep, ho, r⟩ := hm
        exact ⟨o, es, ep, h8 _ _ ho, r⟩
      refine wpAny_bind (table_keep (s := { s with heap := h', toks := tk }) hh lo hm' (h7 c (.head _)) fun h2 tk2 k2 => ?_)
      refine wpAny_bind (wpAny_pure ?_)
      refine wpAny_pure ⟨rfl, by show total + 1 ≤ _; first | lia | omega, by first | lia | omega, ?_, ⟨_, hdn, hpc⟩, fun c' hc' => h7 c' (.tail _ hc'), h2, tk2, rfl, fun b o e => k2 b o (h8 b o e)⟩
      intro c' a e
      rw [List.lookup_cons] at e
      split at e
      · rename_i q
        have : c' = c := by simpa using q
        subst this
        exact (Option.some.inj e).symm
      · exact h4 c' a e
  case fin =>
    rintro ⟨pieces, total, fast, known, ad⟩ s' ⟨h1, h2, h3, h4, ⟨dn, h5, h6⟩, h7, h', tk, rfl, h8⟩
    have ht : ¬ Str.tooLong total = true := by rw [short24 (by simp at h2; first | lia | omega)]; simp
    dsimp only
    rw [if_neg ht]
    have hx : (⟨List.foldl (fun acc (p : PySem.Str) => acc ++ p.cps) #[] pieces.reverse⟩ : PySem.Str) = x := by
      have e1 : dn = x.cps.toList := by rw [← h5]; simp
      have e2 : pieces.reverse = x.cps.toList.map fun c => (⟨#[c]⟩ : PySem.Str) := by rw [← e1]; exact h6
      have e3 : ∀ (l : List Nat) (acc : Array Nat), (List.foldl (fun acc (p : PySem.Str) => acc ++ p.cps) acc (l.map fun c => (⟨#[c]⟩ : PySem.Str))).toList = acc.toList ++ l := by
        intro l
        induction l with
        | nil => intro acc; simp
        | cons a l ih => intro acc; rw [List.map_cons, List.foldl_cons, ih]; simp
      rw [e2]
      cases x with
      | mk cps =>
        congr 1
        apply Array.ext'
        rw [e3]; rfl
    rw [hx]
    exact wpAny_bind (wpAny_mkStr (wpAny_pure ⟨_, rfl, h _ h' _ h8⟩) (by rw [sizeLine_eq]; first | lia | omega))
end
end Mine
open PySem PySem.W PyProof.Rows PySem.Builtin
namespace Mine
theorem chk_fk (t : Tok) : checkBuiltinCall "dict.fromkeys" ⟨[.type "dict", .str (Str.ofString "\r\n") t], []⟩ = pure () := by kernel_rfl
theorem entry_fk : entryFor table "dict.fromkeys" = some Builtin.«dict.fromkeys» := entryFor_of_tree (by kernel_rfl)
theorem entry_fkl : entryFor table "dict.fromkeys.loop" = some Builtin.«dict.fromkeys.loop» := entryFor_of_tree (by kernel_rfl)
theorem plain_fk : plainId "dict.fromkeys" = true := by decide +kernel
theorem plain_fkl : plainId "dict.fromkeys.loop" = true := by decide +kernel
theorem typeCall_dict0 : checkTypeCall "dict" ⟨[], []⟩ = pure () := by kernel_rfl
theorem newCall_dict0 : checkBuiltinCall "dict.__new__" ⟨[.type "dict"], []⟩ = pure () := by kernel_rfl
theorem isType_dict : isType (.type "dict") = pure true := by kernel_rfl
theorem sub_dict : isSubtype (.type "dict") (.type "dict") = pure true := by rw [isSubtype_type]; kernel_rfl
section
variable {prog : Program} {w : World} {A : Around} {E : Value → Shared → Prop} {s : Shared}
theorem dict0 {Q : Value → Shared → Prop} (h : Q (.ref s.heap.objs.size) { s with heap := s.heap.push { cls := .type "dict", data := .dict #[] } }) : wpAny (model prog w) A (call (.type "dict") []) Q E s := by
  refine callType_codes (Q₁ := fun obj s₁ => obj = .ref s.heap.objs.size ∧ s₁ = { s with heap := s.heap.push { cls := .type "dict", data := .dict #[] } }) PySem.F.kt_called_dict typeCall_dict0 PySem.F.entry_dict_init ?_ ?_
  · refine codeAny_call_builtin PySem.F.kt_plain_dict_new PySem.F.kt_entry_dict_new (wpAny_of_eq newCall_dict0 ?_)
    have hsub := PySem.F.kt_sub_dict
    have hmro := PySem.F.kt_mro_dict
    obtain ⟨hp, g, d, tk, os⟩ := s
    unfold Builtin.«dict.__new__»
    wp_walk
    exact ⟨rfl, rfl⟩
  · rintro obj s₁ ⟨rfl, rfl⟩
    have hnew : (s.heap.push { cls := .type "dict", data := .dict #[] }).DictOf (strKind prog w) s.heap.objs.size [] := Heap.DictOf.new s.heap
    refine ⟨hnew.typeIs, PySem.F.args_dict_init_1 _, ?_⟩
    unfold Builtin.«dict.__init__»
    refine wpAny_bind ?_
    unfold Builtin.Dict.selfAndRest
    refine wpAny_bind (wpAny_notOrdered_dict hnew.typeIs ?_)
    show wpAny _ _ (pure (s.heap.objs.size, [])) _ _ _
    refine wpAny_pure ?_
    obtain ⟨hp, g, d, tk, os⟩ := s
    show wpAny _ _ (Builtin.Dict.updateCommon "dict.__init__" "dict" _ [] []) _ _ _
    unfold Builtin.Dict.updateCommon
    wp_walk
    exact ⟨rfl, h⟩
abbrev crS : PySem.Str := Str.ofString "\r"
abbrev lfS : PySem.Str := Str.ofString "\n"
theorem fk_step {d I : Addr} {x : PySem.Str} {St : Nat → Heap → Prop} {R : Result → Shared → Prop} {i : Nat} {c : Nat} {kvs : List (PySem.Str × Value)} (W : Walks prog w A.in1 I [I] [I] x.cps.size (SignAt x) St) (hi : i < x.cps.size) (hc : x.cps[i]? = some c) (st : St i s.heap) (hd : s.heap.DictOf (strKind prog w) d kvs) (hne : d ≠ I) (hsz : kvs.length ≤ 100)
    (h : ∀ h' tk, St (i + 1) h' → h'.DictOf (strKind prog w) d (stored kvs ⟨#[c]⟩ .none) → (∀ b o, b ≠ I → b ≠ d → s.heap.get? b = some o → h'.get? b = some o) →
      codeAny (model prog w) A (.builtin "dict.fromkeys.loop" ⟨[.ref d, .ref I, .none], []⟩) R { s with heap := h', toks := tk }) :
    codeAny (model prog w) A (.builtin "dict.fromkeys.loop" ⟨[.ref d, .ref I, .none], []⟩) R s := by
  refine codeAny_builtin entry_fkl ?_
  rw [Around.under_plainId plain_fkl _]
  unfold Builtin.«dict.fromkeys.loop»
  dsimp only
  refine wpAny_bind (W.item i _ _ _ hi st fun v h1 tk1 hP st1 k1 => ?_)
  obtain ⟨c', u, hc', rfl⟩ := hP
  rw [hc] at hc'
  cases hc'
  have hd1 : h1.DictOf (strKind prog w) d kvs := by
    obtain ⟨o, es, ep, ho, r⟩ := hd
    exact ⟨o, es, ep, k1 _ _ (by simpa using hne) ho, r⟩
  refine wpAny_bind (wpAny_typeOf (s := { s with heap := h1, toks := tk1 }) hd1.typeIs ?_)
  rw [if_pos (by decide)]
  refine wpAny_bind (wpAny_pure (wpAny_bind (wpAny_holding (wpAny_dictSet_pairs (s := { s with heap := h1, toks := tk1 }) (strKind_is prog w _ u) hd1 (fun h2 hd2 sb => ?_) (by rw [sizeLine_eq]; omega)))))
  refine wpAny_pure ⟨plainId_quiet plain_fkl _, ?_⟩
  refine h h2 _ (W.frame _ _ _ st1 fun b hb o e => sb.extBut b o (fun q => hne (by rw [← q]; exact (List.mem_singleton.mp hb))) e) hd2 fun b o h1' h2' e => sb.extBut b o h2' (k1 b o (by simpa using h1') e)
theorem fk_done {d I : Addr} {x : PySem.Str} {St : Nat → Heap → Prop} {R : Result → Shared → Prop} (W : Walks prog w A.in1 I [I] [I] x.cps.size (SignAt x) St) (st : St x.cps.size s.heap)
    (h : ∀ h' tk, (∀ b o, b ≠ I → s.heap.get? b = some o → h'.get? b = some o) → R (.ok (.ret (.ref d))) { s with heap := h', toks := tk }) :
    codeAny (model prog w) A (.builtin "dict.fromkeys.loop" ⟨[.ref d, .ref I, .none], []⟩) R s := by
  refine codeAny_builtin entry_fkl ?_
  rw [Around.under_plainId plain_fkl _]
  unfold Builtin.«dict.fromkeys.loop»
  dsimp only
  refine wpAny_bind (W.done _ _ _ st fun h1 tk1 k1 => ?_)
  exact wpAny_pure (h h1 tk1 fun b o hb e => k1 b o (by simpa using hb) e)
theorem fk_code {t : Tok} {Q : Value → Shared → Prop} (hh : A.handled = none)
    (h : ∀ h' tk, (∀ b o, s.heap.get? b = some o → h'.get? b = some o) → h'.DictOf (strKind prog w) s.heap.objs.size [(crS, .none), (lfS, .none)] → Q (.ref s.heap.objs.size) { s with heap := h', toks := tk }) :
    codeAny (model prog w) A (.builtin "dict.fromkeys" ⟨[.type "dict", .str (Str.ofString "\r\n") t], []⟩) (wants Q E) s := by
  refine codeAny_builtin entry_fk ?_
  rw [Around.under_plainId plain_fk _]
  unfold Builtin.«dict.fromkeys»
  dsimp only
  refine wpAny_bind (wpAny_of_eq isType_dict ?_)
  refine wpAny_bind (wpAny_of_eq sub_dict ?_)
  simp only [Bool.not_true, Bool.false_eq_true, if_false, List.isEmpty_nil]
  refine wpAny_bind (wpAny_rule (wpAny_bind (wpAny_pure (wpAny_bind (dict0 (wpAny_holding ?_))))))
  have hd0 : (s.heap.push { cls := .type "dict", data := .dict #[] }).DictOf (strKind prog w) s.heap.objs.size [] := Heap.DictOf.new s.heap
  refine wpAny_bind (wpAny_pure (wpAny_bind (wpAny_typeOf hd0.typeIs ?_)))
  rw [if_neg (by decide)]
  refine wpAny_bind (wpAny_typeOf hd0.typeIs ?_)
  rw [if_neg (by decide)]
  refine wpAny_bind (wpAny_pyIter_str fun o St W st0 => ?_)
  refine wpAny_pure ⟨plainId_quiet plain_fkl _, ?_⟩
  dsimp only at st0 W ⊢
  have hI : (s.heap.push { cls := .type "dict", data := .dict #[] }).objs.size = s.heap.objs.size + 1 := Heap.size_push ..
  have hne : s.heap.objs.size ≠ (s.heap.push { cls := .type "dict", data := .dict #[] }).objs.size := by rw [hI]; exact Nat.ne_of_lt (Nat.lt_succ_self _)
  have old : ∀ b o, s.heap.get? b = some o → b ≠ (s.heap.push { cls := .type "dict", data := .dict #[] }).objs.size ∧ b ≠ s.heap.objs.size := fun b o e => ⟨by rw [hI]; exact Nat.ne_of_lt (Nat.lt_succ_of_lt (Heap.lt_size e)), Nat.ne_of_lt (Heap.lt_size e)⟩
  have W' := W A.in1 hh
  have hd1 := hd0.push o
  refine fk_step (i := 0) (c := 13) W' (by decide +kernel) (by decide +kernel) st0 hd1 hne (by decide) fun h1 tk1 st1 hd2 k1 => ?_
  refine fk_step (s := { s with heap := h1, toks := tk1 }) (i := 1) (c := 10) W' (by decide +kernel) (by decide +kernel) st1 hd2 hne (by decide) fun h2 tk2 st2 hd3 k2 => ?_
  have hs : (Str.ofString "\r\n").cps.size = 2 := by decide +kernel
  refine fk_done (s := { s with heap := h2, toks := tk2 }) W' (by rw [hs]; exact st2) fun h3 tk3 k3 => ?_
  refine h h3 tk3 (fun b o e => ?_) ?_
  · obtain ⟨q1, q2⟩ := old b o e
    exact k3 b o q1 (k2 b o q1 q2 (k1 b o q1 q2 (Heap.get?_push_of_some _ (Heap.get?_push_of_some _ e))))
  · obtain ⟨o', es, ep, ho, r⟩ := hd3
    exact ⟨o', es, ep, k3 _ _ hne ho, r⟩
end
end Mine
open PySem PySem.W PyProof.Rows PySem.Builtin
namespace Mine
theorem chk_mt (d : Addr) : checkBuiltinCall "str.maketrans" ⟨[.ref d], []⟩ = pure () := by kernel_rfl
theorem entry_mt : entryFor table "str.maketrans" = some Builtin.«str.maketrans» := entryFor_of_tree (by kernel_rfl)
theorem plain_mt : plainId "str.maketrans" = true := by decide +kernel
theorem cr_cps : crS = ⟨#[13]⟩ := by decide +kernel
theorem lf_cps : lfS = ⟨#[10]⟩ := by decide +kernel
section
variable {prog : Program} {w : World} {A : Around} {E : Value → Shared → Prop} {s : Shared}
theorem forIn_two {M : Model} {α : Type} {a b : α} {f : α → PUnit → Sem (ForInStep PUnit)} {Q : PUnit → Shared → Prop}
    (h : wpAny M A (f a ⟨⟩) (fun r s' => r = .yield ⟨⟩ ∧ wpAny M A (f b ⟨⟩) (fun r s'' => r = .yield ⟨⟩ ∧ Q ⟨⟩ s'') E s') E s) :
    wpAny M A (forIn [a, b] ⟨⟩ f) Q E s := by
  rw [List.forIn_cons]
  refine wpAny_bind (wpAny_mono h ?_ (fun _ _ h => h))
  rintro r s' ⟨rfl, h2⟩
  dsimp only
  rw [List.forIn_cons]
  refine wpAny_bind (wpAny_mono h2 ?_ (fun _ _ h => h))
  rintro r s'' ⟨rfl, h3⟩
  dsimp only
  rw [List.forIn_nil]
  exact wpAny_pure h3
theorem maketrans_c {d : Addr} {Q : Value → Shared → Prop} (hd : s.heap.DictOf (strKind prog w) d [(crS, .none), (lfS, .none)]) (hs : (d == sysModules) = false)
    (h : ∀ h' tk, (∀ b o, s.heap.get? b = some o → h'.get? b = some o) → h'.DictOf (intKind prog w) s.heap.objs.size [(13, .none), (10, .none)] → Q (.ref s.heap.objs.size) { s with heap := h', toks := tk }) :
    wpAny (model prog w) A (call (.builtin "str.maketrans") [.ref d]) Q E s := by
  refine wpAny_call (codeAny_call_builtin plain_mt entry_mt (wpAny_of_eq (chk_mt d) ?_))
  obtain ⟨o, es, ep, ho, hc, hdd, hk, hp, hn⟩ := id hd
  obtain ⟨e1, e2, he, k1, k2, v1, v2⟩ : ∃ e1 e2, es.toList = [e1, e2] ∧ (∃ t, e1.key = .str crS t) ∧ (∃ t, e2.key = .str lfS t) ∧ e1.val = .none ∧ e2.val = .none := by
    generalize es.toList = l at hp
    cases hp with
    | cons a1 a2 r =>
      cases r with
      | cons b1 b2 r2 =>
        cases r2
        exact ⟨_, _, rfl, Value.isStrOf_shape a1, Value.isStrOf_shape b1, a2, b2⟩
  obtain ⟨t1, k1⟩ := k1
  obtain ⟨t2, k2⟩ := k2
  rw [cr_cps] at k1
  rw [lf_cps] at k2
  have hes : es = #[e1, e2] := by apply Array.ext'; rw [he]
  subst hes
  obtain ⟨hh1, key1, val1⟩ := e1
  obtain ⟨hh2, key2, val2⟩ := e2
  dsimp only at k1 k2 v1 v2
  subst k1 k2 v1 v2
  have hnd : (s.heap.push { cls := .type "dict", data := .dict #[] }).DictOf (intKind prog w) s.heap.objs.size [] := Heap.DictOf.new s.heap
  have hd' : (s.heap.push { cls := .type "dict", data := .dict #[] }).get? d = some o := Heap.get?_push_of_some _ ho
  have hds : d ≠ s.heap.objs.size := Nat.ne_of_lt (Heap.lt_size ho)
  unfold Builtin.«str.maketrans»
  refine wpAny_bind (m := noKeywords "str.maketrans" _) (wpAny_pure ?_)
  refine wpAny_bind (m := checkCount "maketrans" 1 3 _) (wpAny_pure ?_)
  dsimp only
  refine wpAny_bind (wpAny_pure (wpAny_bind (wpAny_pure ?_)))
  refine wpAny_bind (m := newDict) ?_
  refine wpAny_newObj_type ?_
  have hT : ({ s with heap := s.heap.push { cls := .type "dict", data := .dict #[] } } : Shared).TypeIs (.ref d) "dict" := ⟨o, hd', hc.1⟩
  dsimp only
  refine wpAny_bind (wpAny_holding ?_)
  dsimp only [List.headD]
  refine wpAny_bind (wpAny_typeOf hT ?_)
  refine wpAny_bind (m := notAStandIn (.type "dict")) (wpAny_pure ?_)
  refine wpAny_bind (wpAny_typeOf hT ?_)
  rw [if_neg (by decide)]
  unfold notTheModulesDict
  rw [hs]
  refine wpAny_bind (m := (if false = true then _ else _)) ?_
  rw [if_neg (by decide)]
  refine wpAny_pure ?_
  refine wpAny_bind (wpAny_dictEntries hd' hdd ?_)
  rw [← Array.forIn_toList]
  refine wpAny_bind ?_
  refine forIn_two ?_
  refine wpAny_bind (m := asStr? (.str ⟨#[13]⟩ t1)) (wpAny_pure ?_)
  refine wpAny_bind (m := mkInt 13) (wpAny_mkInt ?_)
  refine wpAny_bind (m := dictSet s.heap.objs.size (.int 13 s.toks) .none) (wpAny_dictSet_pairs (intKind_is prog w 13 _) hnd (fun h1 hd1 sb1 => ?_) (by rw [sizeLine_eq]; decide))
  refine wpAny_pure ⟨rfl, ?_⟩
  refine wpAny_bind (m := asStr? (.str ⟨#[10]⟩ t2)) (wpAny_pure ?_)
  refine wpAny_bind (m := mkInt 10) (wpAny_mkInt ?_)
  refine wpAny_bind (m := dictSet s.heap.objs.size (.int 10 _) .none) (wpAny_dictSet_pairs (intKind_is prog w 10 _) hd1 (fun h2 hd2 sb2 => ?_) (by rw [sizeLine_eq]; decide))
  refine wpAny_pure ⟨rfl, ?_⟩
  refine wpAny_pure ?_
  refine wpAny_pure ?_
  refine h h2 _ (fun b o e => ?_) hd2
  have hb : b ≠ s.heap.objs.size := Nat.ne_of_lt (Heap.lt_size e)
  rw [sb2.2 b hb]
  refine (sb1.2 b hb).trans ?_
  exact Heap.get?_push_of_some _ e
end
end Mine
open PySem PySem.W PyProof.Rows PySem.Builtin
namespace Mine
theorem lookup_mt : typeLookup (.type "str") "maketrans" = pure (some (.builtin "str.maketrans")) := by rw [typeLookup_type, builtinLookup_eq_fast]; kernel_rfl
theorem type_mt : typeOf (.builtin "str.maketrans") = pure (.type "builtin_function_or_method") := by show builtinType _ = _; rw [builtinType_eq_fast]; kernel_rfl
theorem get_bfm : typeLookup (.type "builtin_function_or_method") "__get__" = pure none := by rw [typeLookup_type, builtinLookup_eq_fast]; kernel_rfl
theorem meets_mt (x : PySem.Str) (t u : Tok) :
    Meets (Builtin.«object.__getattribute__» ⟨[.str x t, .str (PySem.Str.ofString "maketrans") u], []⟩) (fun _ R s => R (.ok (.ret (.builtin "str.maketrans"))) s) :=
  Meets.of_wp fun prog w A R s hs => by
    obtain ⟨hp, g, d, tk, os⟩ := s
    have hT : ∀ s' : Shared, s'.TypeIs (.str x t) "str" := fun _ => rfl
    have h1 := lookup_mt
    have h2 := type_mt
    have h3 := get_bfm
    unfold Builtin.«object.__getattribute__»
    repeat (any_goals (first | assumption | wp_step))
    exact ⟨_, rfl, hs⟩
section
variable {prog : Program} {w : World} {A : Around} {E : Value → Shared → Prop} {s : Shared}
theorem attr_mt {x : PySem.Str} {t : Tok} {Q : Value → Shared → Prop} (h : ∀ tk, Q (.builtin "str.maketrans") { s with toks := tk }) :
    wpAny (model prog w) A (getAttr (.str x t) (PySem.Str.ofString "maketrans")) Q E s := by
  obtain ⟨hp, g, d, tk, os⟩ := s
  have hT : ∀ s' : Shared, s'.TypeIs (.str x t) "str" := fun _ => rfl
  have f3 := PySem.F.slot_str_getattribute.lookup
  have f4 := PySem.F.slot_str_getattribute.bind (.str x t)
  have f5 := am_str_getattr_none
  unfold getAttr getAttrBy
  repeat (any_goals (first | assumption | ((with_reducible show wpAny _ _ (call (Value.builtin "object.__getattribute__") _ _) _ _ _); refine call_meets PySem.F.slot_str_getattribute (hT _) PySem.F.entry_object_getattribute (PySem.F.args_object_getattribute_2 _ _) (meets_mt x t _) ?_) | wp_step))
  show wpAny _ _ (handedOut (.builtin "str.maketrans")) _ _ _
  exact wpAny_of_eq (a := .builtin "str.maketrans") (by kernel_rfl) (h _)
theorem getm_static {v : Value} {T id : String} {name : PySem.Str} {pl : Sem Bool} {Q : Value × List Value → Shared → Prop} (hT : s.TypeIs v T) (pa : PlainAttrs T) (hl : typeLookup (.type T) name = pure (some (.builtin id))) (ht : typeOf (.builtin id) = pure (.type "builtin_function_or_method"))
    (h : wpAny (model prog w) A (getAttr v name) (fun f s' => Q (f, []) s') E s) :
    wpAny (model prog w) A (getMethod v name pl) Q E s := by
  obtain ⟨g, hg, hcan⟩ := pa.ga
  unfold getMethod
  refine wpAny_bind (wpAny_specialOf hT hg ?_)
  show wpAny _ A (if (Manifest.canonical g != "object.__getattribute__") = true then _ else _) Q E s
  rw [hcan, if_neg Bool.false_ne_true]
  refine wpAny_bind (wpAny_specialOf hT pa.noGetattr ?_)
  refine wpAny_bind (wpAny_specialOf hT hl ?_)
  refine wpAny_bind (wpAny_of_eq ht ?_)
  refine wpAny_bind ?_
  exact wpAny_mono h (fun f s' x => wpAny_pure x) fun _ _ x => x
set_option profiler true in
theorem getm_mt {x : PySem.Str} {t : Tok} {pl : Sem Bool} {Q : Value × List Value → Shared → Prop} (h : ∀ tk, Q (.builtin "str.maketrans", []) { s with toks := tk }) :
    wpAny (model prog w) A (getMethod (.str x t) (PySem.Str.ofString "maketrans") pl) Q E s :=
  by
  have e1 : s.TypeIs (.str x t) "str" := rfl
  have e2 := PySem.F.plainAttrs_str
  refine getm_static (T := "str") (id := "str.maketrans") ?a ?b ?c ?d ?_
  · exact e1
  · exact e2
  · exact lookup_mt
  · exact type_mt
  exact attr_mt (Q := fun f s' => Q (f, []) s') h
end
end Mine
open PySem PySem.W PyProof.Rows PySem.Builtin
namespace Mine
def boundFk : Obj := { cls := .type "builtin_function_or_method", data := .fields #[.builtin "dict.fromkeys", .type "dict"] }
theorem type_fk : typeOf (.builtin "dict.fromkeys") = pure (.type "classmethod_descriptor") := by show builtinType _ = _; rw [builtinType_eq_fast]; kernel_rfl
theorem owner_fk : (kfb_private% "ownerAndName") "dict.fromkeys" = ("dict", "fromkeys") := by first | decide +kernel | kernel_rfl
theorem quiet_fk {as : Args} : (Code.builtin "dict.fromkeys" as).quiet = true := Code.quiet_builtin _ (by decide +kernel)
theorem check_fk {t : Tok} : checkBoundCall "dict.fromkeys" ⟨[.type "dict", .str (PySem.Str.ofString "\r\n") t], []⟩ = pure () := by first | kernel_rfl | rfl
def FkObj (prog : Program) (w : World) (o : Obj) : Prop := ∀ (h : Heap) (d : Addr), h.get? d = some o → h.DictOf (strKind prog w) d [(crS, .none), (lfS, .none)]
def MtObj (prog : Program) (w : World) (o : Obj) : Prop := ∀ (h : Heap) (d : Addr), h.get? d = some o → h.DictOf (intKind prog w) d [(13, .none), (10, .none)]
theorem news_after {h₀ h h' : Heap} {L : Addr} {news : List (Addr × Obj)} (N : News h₀ L h news) (k : ∀ b o, h.get? b = some o → h'.get? b = some o) : News h₀ L h' news := fun p hp => ⟨k _ _ (N p hp).1, (N p hp).2⟩
section
variable {prog : Program} {w : World} {M : Model} {A : Around} {E : Value → Shared → Prop} {s : Shared} {K : Frag} {h₀ : Heap} {L : Addr} {m : PySem.Str → Option Value} {news : List (Addr × Obj)}
theorem fk_get {P : Fin → Shared → Prop} (h : P (.done (.ret (.ref s.heap.objs.size))) { s with heap := s.heap.push boundFk }) :
    wpAny M A (Builtin.«classmethod_descriptor.__get__» ⟨[.builtin "dict.fromkeys", .none, .type "dict"], []⟩) P E s := by
  unfold Builtin.«classmethod_descriptor.__get__»
  refine wpAny_bind (wpAny_of_eq (a := (.builtin "dict.fromkeys", none, some (.type "dict"))) (by first | rfl | kernel_rfl) ?_)
  simp only [owner_fk]
  refine wpAny_bind (wpAny_of_eq (a := .type "dict") rfl ?_)
  refine wpAny_bind (wpAny_of_eq (a := true) isType_dict ?_)
  refine KFB.if_not rfl ?_
  refine wpAny_bind (wpAny_of_eq (a := true) sub_dict ?_)
  refine KFB.if_not rfl ?_
  exact wpAny_bind (wpAny_newObj_type (wpAny_pure h))
theorem fk_getm {pl : Sem Bool} {Q : Value × List Value → Shared → Prop} (F : Fr h₀ L s.heap m) (N : News h₀ L s.heap news) (X₀ : K.In h₀)
    (e : findCls K (.type "dict") (.type "type") (PySem.Str.ofString "fromkeys") = some (.get (.builtin "classmethod_descriptor.__get__") (.builtin "dict.fromkeys") .none (.type "dict")))
    (h : ∀ x h', Fr h₀ L h' m → News h₀ L h' ((x, boundFk) :: news) → (∀ p ∈ news, p.1 < x) → Q (.ref x, []) { s with heap := h', toks := s.toks + 1 }) :
    wpAny (model prog w) A (getMethod (.type "dict") (PySem.Str.ofString "fromkeys") pl) Q E s := by
  have X := X₀.keeps F.keep
  have hstub : opaqueClassAbove (.type "dict") = pure none := by unfold opaqueClassAbove; dsimp only; rw [show Manifest.isStub "dict" = false by decide +kernel]; rfl
  have ht : typeOf (.type "dict") = pure (.type "type") := by first | rfl | kernel_rfl
  have L0 : Looks (model prog w) s.heap (typeOf (.type "dict")) (.type "type") := Looks.of_pure ht
  have hg : findIn K (.type "type") "__getattribute__" = some (some (.builtin "type.__getattribute__")) := type_tga
  unfold getMethod specialOf
  refine wpAny_bind (wpAny_bind (L0.here ((looks_findIn X hg).here ?_)))
  dsimp only
  rw [if_pos canon_tga]
  refine wpAny_bind (wpAny_mono (Q := fun v => Q (v, [])) (E := E) ?_ (fun _ _ z => wpAny_pure z) fun _ _ z => z)
  have LO : Looks (model prog w) s.heap (opaqueClassAbove (.type "dict")) none := Looks.of_pure hstub
  refine cls_open X LO L0 hg (looks_hook X (r := none) (by rfl)) (by show subIn K _ _ = _; rfl) e ?_
  show wpAny _ _ (holding [.builtin "dict.fromkeys"] (call (.builtin "classmethod_descriptor.__get__") [.builtin "dict.fromkeys", .none, .type "dict"]) >>= fun v => ret v) _ _ _
  refine wpAny_bind (wpAny_holding (wpAny_call_entry KFB.slot_get type_fk KFB.entry_get (fk_get ⟨_, rfl, wpAny_pure (wpAny_pure (h _ _ (F.push _) (News.push F N _) fun p hp => Heap.lt_size (N p hp).1))⟩) (KFB.args_get _ _ _)))
def StandsFk (x : Addr) (h : Heap) : Prop := h.get? x = some boundFk
theorem fk_at {x : Addr} {h : Heap} (N : News h₀ L h news) (hm : (x, boundFk) ∈ news) : StandsFk x h := N.get hm
theorem fk_callWith {pos : Pos} {u : Addr} {first : List Value} {env : Env} {e : Expr} {rest : List Expr} {Q : Value → Shared → Prop} (_N : News h₀ L s.heap news) (_hm : (u, boundFk) ∈ news)
    (h : wpAny M A (spliced (backTo pos (starEach (e :: rest) env))) (fun vs s₁ => StandsFk u s₁.heap ∧ wpAny M A (call (.ref u) (first ++ vs)) Q E s₁) E s)
    (he : starEach (e :: rest) env = (false, eval e env) :: starEach rest env := by rfl) (hplain : (backTo pos (starEach rest env)).any (·.1) = false := by rfl) :
    wpAny M A (callWith pos (.ref u) first (backTo pos (starEach (e :: rest) env)) []) Q E s := by
  rw [he] at h ⊢
  have hp : ((backTo pos ((false, eval e env) :: starEach rest env))).any (·.1) = false := by show (false || (backTo pos (starEach rest env)).any (·.1)) = false; rw [hplain]; rfl
  have h := PySem.Calls.evalArgs_plain (f := .ref u) (Q := fun x s₁ => StandsFk u s₁.heap ∧ wpAny M A (call (.ref u) (first ++ x.pos) x.kw) Q E s₁) h
  unfold callWith
  refine wpAny_bind (wpAny_holding (wpAny_mono h (fun x s₁ h₁ => wpAny_bind (wpAny_standAt ?_)) fun _ _ x => x))
  obtain ⟨ho, hcall⟩ := h₁
  simp only [hp, List.any_nil, Bool.or_false]
  refine wpAny_bind (m := keeperOf (.ref u)) ?_
  unfold keeperOf
  refine wpAny_bind (wpAny_load ho ?_)
  simp only [boundFk, show (Value.type "builtin_function_or_method" != Value.type "method") = true by decide, show (Value.type "builtin_function_or_method" == Value.type "builtin_function_or_method" || Value.type "builtin_function_or_method" == Value.type "method-wrapper") = true by decide, if_true]
  refine wpAny_pure ?_
  exact wpAny_bind (wpAny_mono hcall (fun r s₂ hr => wpAny_bind (wpAny_holding (wpAny_point (wpAny_pure hr)))) fun _ _ x => x)
theorem fk_call {x : Addr} {t : Tok} {Q : Value → Shared → Prop} (hh : A.handled = none) (F : Fr h₀ L s.heap m) (N : News h₀ L s.heap news) (X₀ : K.In h₀) {ob : Obj} (hb : K.lookup 61 = some ob) (hm : (x, boundFk) ∈ news)
    (h : ∀ (d : Nat) o h' tk, FkObj prog w o → 1 < d → Fr h₀ L h' m → News h₀ L h' ((d, o) :: news) → (∀ p ∈ news, p.1 < d) → Q (.ref d) { s with heap := h', toks := tk }) :
    wpAny (model prog w) A (call (.ref x) [.str (PySem.Str.ofString "\r\n") t]) Q E s := by
  have ho := fk_at N hm
  have hbig : (61 : Nat) < s.heap.objs.size := Heap.lt_size (F.keep _ _ (X₀ _ _ hb))
  have hL := ((N.push F boundFk) (s.heap.objs.size, boundFk) (.head _)).2
  refine wpAny_call (codeAny_of_tree ?_)
  show wpAny _ A.in1 (callAny (.ref x) ⟨[.str (PySem.Str.ofString "\r\n") t], []⟩) _ _ s
  simp only [callAny]
  refine wpAny_bind (wpAny_load ho ?_)
  simp only [boundFk, show (Value.type "builtin_function_or_method" == Value.type "method" || Value.type "builtin_function_or_method" == Value.type "builtin_function_or_method" || Value.type "builtin_function_or_method" == Value.type "method-wrapper") = true by decide, if_true]
  refine KFB.if_so (by decide) ?_
  refine wpAny_bind (wpAny_of_eq (a := ()) check_fk ?_)
  refine wpAny_bind (wpAny_pure (wpAny_pure ?_))
  refine ⟨quiet_fk, fk_code hh fun h' tk k hD => ?_⟩
  obtain ⟨o', es, ep, ho', r⟩ := hD
  refine h _ o' h' tk (fun h'' d' e => ⟨o', es, ep, e, r⟩) (by first | lia | omega) (F.keeps k) (fun p hp => ?_) fun p hp => Heap.lt_size (N p hp).1
  rcases List.mem_cons.mp hp with rfl | hp
  · exact ⟨ho', hL⟩
  · exact news_after N k p hp
theorem mt_call {d : Nat} {o : Obj} {Q : Value → Shared → Prop} (F : Fr h₀ L s.heap m) (N : News h₀ L s.heap news) (hm : (d, o) ∈ news) (ho : FkObj prog w o) (hb : 1 < d)
    (h : ∀ (d : Nat) o h' tk, MtObj prog w o → 1 < d → Fr h₀ L h' m → News h₀ L h' ((d, o) :: news) → (∀ p ∈ news, p.1 < d) → Q (.ref d) { s with heap := h', toks := tk }) :
    wpAny (model prog w) A (call (.builtin "str.maketrans") [.ref d]) Q E s := by
  have hd := N _ hm
  have hL := ((N.push F boundFk) (s.heap.objs.size, boundFk) (.head _)).2
  have hs : d < s.heap.objs.size := Heap.lt_size hd.1
  refine maketrans_c (ho _ _ hd.1) (beq_eq_false_iff_ne.mpr (Nat.ne_of_gt hb)) fun h' tk k hD => ?_
  obtain ⟨o', es, ep, ho', r⟩ := hD
  refine h _ o' h' tk (fun h'' d' e => ⟨o', es, ep, e, r⟩) (by first | lia | omega) (F.keeps k) (fun p hp => ?_) fun p hp => Heap.lt_size (N p hp).1
  rcases List.mem_cons.mp hp with rfl | hp
  · exact ⟨ho', hL⟩
  · exact news_after N k p hp
theorem tl_call {d : Nat} {o : Obj} {x : PySem.Str} {t : Tok} {Q : Value → Shared → Prop} (hh : A.handled = none) (F : Fr h₀ L s.heap m) (N : News h₀ L s.heap news) (hm : (d, o) ∈ news) (ho : MtObj prog w o) (hb : 1 < d)
    (hf : ∀ c ∈ x.cps.toList, isEnd c = false) (hl : x.length ≤ 1000) (hl0 : 0 < x.length) (ha : x.cps.all (· < 128) = true)
    (h : ∀ t' h' tk, Fr h₀ L h' m → News h₀ L h' news → Q (.str x t') { s with heap := h', toks := tk }) :
    wpAny (model prog w) A (call (.builtin "str.translate") [.str x t, .ref d]) Q E s := by
  have hd := N _ hm
  refine call_translate hh (beq_eq_false_iff_ne.mpr (Nat.ne_of_gt hb)) (ho _ _ hd.1).mapOf ?_ hl hl0 ha fun t' h' tk k => h t' h' tk (F.keeps k) (news_after N k)
  intro c hc
  have := hf c hc
  simp only [isEnd, Bool.or_eq_false_iff, beq_eq_false_iff_ne] at this
  have h1 : ¬ ((c : Int) = 13) := by first | lia | omega
  have h2 : ¬ ((c : Int) = 10) := by first | lia | omega
  simp [valueAt, h1, h2]
  first | lia | omega
theorem getm_tl {x : PySem.Str} {t : Tok} {pl : Sem Bool} {Q : Value × List Value → Shared → Prop} (h : Q (.builtin "str.translate", [.str x t]) s) :
    wpAny M A (getMethod (.str x t) (PySem.Str.ofString "translate") pl) Q E s := by
  refine getMethod_builtin (T := "str") (id := "str.translate") ?a ?b ?c ?d ?e ?f
  · exact rfl
  · exact PySem.F.plainAttrs_str
  · exact PySem.F.slot_str_translate
  · show builtinType _ = _; rw [builtinType_eq_fast]; kernel_rfl
  · intro a e; cases e
  · exact h
end
end Mine
open PySem PySem.W PyProof.Rows PySem.Builtin
namespace Mine
theorem mro_dq : mroOf (.type "collections.deque") = pure [.type "collections.deque", .type "object"] := by rw [mroOf_type]; kernel_rfl
theorem lookup_dq_new : typeLookup (.type "collections.deque") "__new__" = pure (some (.builtin "collections.deque.__new__")) := by rw [typeLookup_type, builtinLookup_eq_fast]; kernel_rfl
theorem slot_dq_init : Slot "collections.deque" "__init__" "collections.deque.__init__" :=
  .of (owner := "collections.deque") (n := "__init__") (by rw [typeLookup_type, builtinLookup_eq_fast]; kernel_rfl) (by decide +kernel) (by decide +kernel) (by decide +kernel)
    (by first | exact .inl (by decide +kernel) | exact .inr (by decide +kernel)) (by rw [isSubtype_type]; kernel_rfl)
theorem sub_dq_self : isSubtype (.type "collections.deque") (.type "collections.deque") = pure true := by rw [isSubtype_type]; kernel_rfl
theorem called_dq : TypeCalled "collections.deque" "collections.deque.__new__" "collections.deque.__init__" :=
  ⟨by decide +kernel, by decide +kernel, ⟨_, _, mro_dq⟩, madeBy_type mro_dq lookup_dq_new (by decide +kernel), by decide +kernel, sub_dq_self, slot_dq_init⟩
theorem typeCall_dq : checkTypeCall "collections.deque" ⟨[], []⟩ = pure () := by kernel_rfl
theorem newCall_dq : checkBuiltinCall "collections.deque.__new__" ⟨[.type "collections.deque"], []⟩ = pure () := by kernel_rfl
theorem entry_dq_new : entryFor table "collections.deque.__new__" = some Builtin.«collections.deque.__new__» := entryFor_of_tree (by kernel_rfl)
theorem entry_dq_init : entryFor table "collections.deque.__init__" = some Builtin.«collections.deque.__init__» := entryFor_of_tree (by kernel_rfl)
theorem plain_dq_new : plainId "collections.deque.__new__" = true := by decide +kernel
theorem args_dq_init (a : Value) : argsOk "collections.deque.__init__" ⟨[a], []⟩ := by
  unfold argsOk; rw [signature?_of (id := "collections.deque.__init__") (n := ['_', '_', 't', 'i', 'n', 'i', '_', '_']) (o := "collections.deque".toList.reverse) (by kernel_rfl) owner_dq]; kernel_rfl
section
variable {prog : Program} {w : World} {A : Around} {E : Value → Shared → Prop} {s : Shared}
theorem code_dq_new {Q₁ : Value → Shared → Prop} (h : Q₁ (.ref s.heap.objs.size) { s with heap := s.heap.push (dqOf [] 0) }) :
    codeAny (model prog w) A (.call (.builtin "collections.deque.__new__") ⟨[.type "collections.deque"], []⟩) (wants Q₁ E) s := by
  refine codeAny_of_tree ?_
  show wpAny _ A.in1 (do checkBuiltinCall "collections.deque.__new__" ⟨[.type "collections.deque"], []⟩; again (.builtin "collections.deque.__new__" ⟨[.type "collections.deque"], []⟩)) _ _ s
  refine wpAny_bind (wpAny_of_eq newCall_dq (wpAny_pure ⟨plainId_quiet plain_dq_new _, codeAny_builtin entry_dq_new ?_⟩))
  rw [Around.under_plainId plain_dq_new _]
  have hsub := sub_dq_self
  obtain ⟨hp, g, d, tk, os⟩ := s
  unfold Builtin.«collections.deque.__new__» Deque.newArgs Deque.new Deque.ty
  wp_walk
  exact h
theorem dq_call {h₀ : Heap} {L : Addr} {m : Str → Option Value} {news : List (Addr × Obj)} {Q : Value → Shared → Prop} (F : Fr h₀ L s.heap m) (N : News h₀ L s.heap news)
    (h : ∀ D h', Fr h₀ L h' m → News h₀ L h' ((D, dqOf [] 0) :: news) → (∀ p ∈ news, p.1 < D) → Q (.ref D) { s with heap := h' }) : wpAny (model prog w) A (call (.type "collections.deque") []) Q E s := by
  refine callType_codes (Q₁ := fun obj s₁ => obj = .ref s.heap.objs.size ∧ s₁ = { s with heap := s.heap.push (dqOf [] 0) }) called_dq typeCall_dq entry_dq_init (code_dq_new ⟨rfl, rfl⟩) ?_
  rintro obj s₁ ⟨rfl, rfl⟩
  have hd : (s.heap.push (dqOf [] 0)).get? s.heap.objs.size = some (dqOf [] 0) := Heap.get?_push_size _ rfl
  refine ⟨⟨_, hd, rfl⟩, args_dq_init _, ?_⟩
  have fin : Q (.ref s.heap.objs.size) { s with heap := (s.heap.push (dqOf [] 0)).update s.heap.objs.size (Obj.mapFields (·.setIfInBounds 0 .none)) } := by
    have hu : ((s.heap.push (dqOf [] 0)).update s.heap.objs.size (Obj.mapFields (·.setIfInBounds 0 .none))).get? s.heap.objs.size = some (dqOf [] 0) := by
      rw [Heap.get?_update_self _ hd (by rfl)]
      rfl
    have N1 := N.push F (dqOf [] 0)
    have F1 : Fr h₀ L (s.heap.push (dqOf [] 0)) m := F.push _
    have hD := (N1 (s.heap.objs.size, dqOf [] 0) (.head _)).2
    refine h _ _ (F1.change (Heap.SameBut.update ..) hD.1 hD.2) (fun p hp => ?_) (fun p hp => Heap.lt_size (N p hp).1)
    rcases List.mem_cons.mp hp with rfl | hp'
    · exact ⟨hu, hD⟩
    · exact ⟨(Heap.SameBut.update ..).extBut _ _ (Nat.ne_of_lt (Heap.lt_size (N p hp').1)) (N1 p hp).1, (N1 p hp).2⟩
  show wpAny _ _ (setField (.ref s.heap.objs.size) 0 .none >>= fun _ => Deque.clear (.ref s.heap.objs.size) >>= fun _ => ret .none) _ _ _
  refine wpAny_bind (wpAny_setField hd rfl (by decide) (wpAny_bind ?_))
  have hu : ((s.heap.push (dqOf [] 0)).update s.heap.objs.size (Obj.mapFields (·.setIfInBounds 0 .none))).get? s.heap.objs.size = some (dqOf [] 0) := by
    rw [Heap.get?_update_self _ hd (by rfl)]
    rfl
  unfold Deque.clear Deque.items fieldsOf
  refine wpAny_bind (wpAny_bind (wpAny_bind (wpAny_load hu (wpAny_pure (wpAny_pure ?_)))))
  show wpAny _ _ (pure ()) _ _ _
  exact wpAny_pure (wpAny_pure ⟨rfl, fin⟩)
end
end Mine
namespace Mine
open PySem.Spec
/-- a set whose items are the first i of xs -/
abbrev SetUpTo (prog : Program) (w : World) (h : Heap) (a : Addr) (xs : List Str) (i : Nat) : Prop := h.SetOf (PySem.strKind prog w) a (fun k => decide (k ∈ xs.take i)) i
theorem set_grow {prog : Program} {w : World} {h : Heap} {a : Addr} {xs : List Str} {i : Nat} {x : Str} (hx : xs[i]? = some x) (hnd : xs.Nodup)
    (hS : h.SetOf (PySem.strKind prog w) a (fun k' => decide (k' ∈ xs.take i) || decide (k' = x)) (if decide (x ∈ xs.take i) = true then i else i + 1)) : SetUpTo prog w h a xs (i + 1) := by
  have e : xs.take (i + 1) = xs.take i ++ [x] := by rw [List.take_add_one, hx]; rfl
  have hn : x ∉ xs.take i := by
    intro q
    have hl : xs = xs.take i ++ x :: xs.drop (i + 1) := by
      obtain ⟨hlt, ex⟩ := List.getElem?_eq_some_iff.mp hx
      rw [← ex, List.getElem_cons_drop, List.take_append_drop]
    rw [hl, List.nodup_append] at hnd
    exact hnd.2.2 x q x (.head _) rfl
  refine SetOf_congr hS (fun k => ?_) (by rw [decide_eq_false hn]; rfl)
  rw [e]
  by_cases q : k = x
  · subst q; simp
  · simp [q]
section
variable {prog : Program} {w : World} {A : Around} {R : Result → Shared → Prop} {I : Addr} {fp wr : List Addr} {G : Array GenState → Array GenState → Prop} {P : Nat → Value → Prop} {St : Nat → Shared → Prop}
theorem set_loop (xs : List Str) (W : WalksS prog w A.in1 I fp wr G xs.length P St) (a : Addr) (ha : a ∉ fp) (hnd : xs.Nodup) (hval : ∀ i v, P i v → ∃ x t, xs[i]? = some x ∧ v = .str x t) (hb : xs.length + 1 < scanBound) :
    ∀ (k i : Nat) (s : Shared), i + k = xs.length → St i s → SetUpTo prog w s.heap a xs i →
      (∀ s', Moved (a :: wr) G s s' → SetUpTo prog w s'.heap a xs xs.length → R (.ok (.ret .none)) s') →
      codeAny (model prog w) A (.builtin "set.update.loop" ⟨[.ref a, .ref I], []⟩) R s
  | 0, i, s, hi, hst, hS, hR => by
    obtain rfl : i = xs.length := by first | lia | omega
    have haw : a ∉ wr := fun h => ha (W.sub _ h)
    refine codeAny_builtin F.entry_set_update_loop ?_
    rw [Around.under_plainId F.plain_set_update_loop _]
    show wpAny _ A.in1 (pyNext (.ref I) >>= _) _ _ s
    refine wpAny_bind (W.done s _ _ hst fun s' hm => ?_)
    show wpAny _ A.in1 (ret Value.none) _ _ s'
    obtain ⟨o, es, ep, t, ho, rest⟩ := hS
    exact wpAny_pure (hR s' (hm.mono fun b q => List.mem_cons_of_mem _ q) ⟨o, es, ep, t, hm.heap a _ haw ho, rest⟩)
  | k + 1, i, s, hi, hst, hS, hR => by
    have haw : a ∉ wr := fun h => ha (W.sub _ h)
    refine codeAny_builtin F.entry_set_update_loop ?_
    rw [Around.under_plainId F.plain_set_update_loop _]
    show wpAny _ A.in1 (pyNext (.ref I) >>= _) _ _ s
    refine wpAny_bind (W.item i s _ _ (by first | lia | omega) hst fun v s' hP hst' hm => ?_)
    obtain ⟨x, t, hx, rfl⟩ := hval i v hP
    have hS' : SetUpTo prog w s'.heap a xs i := by
      obtain ⟨o, es, ep, tb, ho, rest⟩ := hS
      exact ⟨o, es, ep, tb, hm.heap a _ haw ho, rest⟩
    show wpAny _ A.in1 (holding [Value.str x t] (setAdd a (.str x t)) >>= _) _ _ s'
    refine wpAny_bind (wpAny_holding ?_)
    unfold setAdd
    refine wpAny_holding (wpAny_bind ((PySem.strKind prog w).pyHash (k := x) (strKind_is _ _ _ _) ?_))
    refine wpAny_setAddHashed_of (knd := PySem.strKind prog w) (s := { s' with toks := s'.toks + 1 }) (strKind_is _ _ _ _) rfl hS' (by first | lia | omega) fun h' hsb hS2 => ?_
    refine wpAny_pure ⟨plainId_quiet F.plain_set_update_loop _, set_loop xs W a ha hnd hval hb k (i + 1) _ (by first | lia | omega) (W.frame _ s' _ _ hst' (Nat.le_succ _) fun b hb o e => ?_) (set_grow hx hnd hS2) fun s'' hm'' hS'' => ?_⟩
    · rw [hsb.2 b (fun h : b = a => ha (by rw [← h]; exact hb))]; exact e
    · refine hR s'' (Moved.trans W.gtrans ((hm.mono fun b q => List.mem_cons_of_mem _ q).then_heap (Nat.le_succ _) fun b o hb e => ?_) hm'') hS''
      rw [hsb.2 b (fun h : b = a => hb (by rw [h]; exact List.mem_cons_self))]; exact e
end
section
variable {prog : Program} {w : World} {A : Around} {E : Value → Shared → Prop} {s : Shared}
theorem strs_at : ∀ {vs : List Value} {xs : List Str}, StrsAre vs xs → ∀ (i : Nat) (v : Value), vs[i]? = some v → ∃ x t, xs[i]? = some x ∧ v = .str x t
  | _, _, .nil, i, v, h => by simp at h
  | _, _, .cons n t hr, 0, v, h => by simp at h; exact ⟨n, t, rfl, h.symm⟩
  | _, _, .cons n t hr, i + 1, v, h => by
    simp only [List.getElem?_cons_succ] at h
    obtain ⟨x, t', e1, e2⟩ := strs_at hr i v h
    exact ⟨x, t', by simpa using e1, e2⟩
/-- set(xs) of a list of texts, no two alike -/
theorem call_set_strs {l : Addr} {items : Array Value} {xs : List Str} {Q : Value → Shared → Prop} (hh : A.handled = none) (hl : s.heap.IsList l items) (hi : StrsAre items.toList xs) (hnd : xs.Nodup) (hb : xs.length + 1 < scanBound)
    (h : ∀ (h' : Heap) (tk : Nat), SetUpTo prog w h' s.heap.objs.size xs xs.length → (∀ b o, b < s.heap.objs.size → s.heap.get? b = some o → h'.get? b = some o) → Q (.ref s.heap.objs.size) { s with heap := h', toks := tk }) :
    wpAny (model prog w) A (call (.type "set") [.ref l]) Q E s := by
  have hlen : items.size = xs.length := by rw [← hi.length]; simp
  obtain ⟨c, tl, hmro⟩ := PySem.F.called_set.mro
  have hmade := PySem.F.called_set.made
  have hsub := PySem.F.called_set.sub
  refine wpAny_call (codeAny_of_tree ?_)
  show wpAny _ _ (callAny (.type "set") _) _ _ _
  refine wpAny_pure ⟨Code.quiet_builtin _ (by decide +kernel), codeAny_builtin PySem.F.entry_type_call ?_⟩
  rw [Around.under_plain (weight_type_call_type "set" [.ref l] []) rfl]
  have h1 := PySem.F.called_set.notType
  have h2 := PySem.F.called_set.canCreate
  have hct := PySem.F.typeCall_set_1 (.ref l)
  repeat (any_goals (first | assumption | wp_step))
  refine codeAny_mono (code_set_new_1 (.ref l) (E := E) (Q₁ := fun obj s₁ => ∃ led : Bool, obj = .ref s.heap.objs.size ∧ s₁ = { s with heap := s.heap.push { cls := .type "set", dict := none, data := .set #[] 0 (.fresh 0 0 led) } }) fun led => ⟨led, rfl, rfl⟩) fun r s₁ hr => ?_
  cases r with
  | error e => exact hr
  | ok fl =>
    cases fl with
    | ret obj =>
      obtain ⟨led, rfl, rfl⟩ := hr
      generalize hg : s.heap.push { cls := .type "set", dict := none, data := .set #[] 0 (.fresh 0 0 led) } = g
      have hS : g.get? s.heap.objs.size = some { cls := .type "set", dict := none, data := .set #[] 0 (.fresh 0 0 led) } := by rw [← hg]; exact Heap.get?_push_size _ rfl
      have hup : ∀ b o, s.heap.get? b = some o → g.get? b = some o := fun b o e => by rw [← hg]; exact Heap.get?_push_of_some _ e
      have hgs : g.objs.size = s.heap.objs.size + 1 := by rw [← hg]; exact Heap.size_push _ _
      have hT : Shared.TypeIs { s with heap := g } (.ref s.heap.objs.size) "set" := ⟨_, hS, rfl⟩
      have hli := PySem.F.called_set.init.lookup
      have hbi := PySem.F.called_set.init.bind (.ref s.heap.objs.size)
      repeat (any_goals (first | assumption | wp_step))
      refine codeAny_mono (codeAny_call_builtin (R := wants (fun r s₂ => r = .none ∧ ∃ h' tk, s₂ = { s with heap := h', toks := tk } ∧ SetUpTo prog w h' s.heap.objs.size xs xs.length ∧ (∀ b o, b < s.heap.objs.size → s.heap.get? b = some o → h'.get? b = some o)) E)
        PySem.F.called_set.init.plain PySem.F.entry_set_init (check_set_init_1 hT ?_)) fun r₂ s₂ hr₂ => ?_
      · obtain ⟨ol, hol, hcl, nl, hdl⟩ := hl
        obtain ⟨ocls, odict, odata, oslots⟩ := ol
        simp only at hcl hdl
        subst hcl; subst hdl
        have hol' := hup _ _ hol
        have hsls := PySem.F.sub_list_set
        have hslf := PySem.F.sub_list_frozenset
        have hne : (Value.type "list" == Value.type "dict") = false := by decide
        have hl1 : g.IsList l items := ⟨_, hol', rfl, nl, rfl⟩
        unfold Builtin.«set.__init__» noKeywords Builtin.Frozenset.updateFrom
        generalize hPI : pyIter = PI
        wp_walk
        subst hPI
        refine wpAny_pyIter_list hl1 (wpAny_bind (wpAny_runValue ?_))
        have hlS : l < s.heap.objs.size := Heap.lt_size hol
        have hneI : l ≠ g.objs.size := by rw [hgs]; exact Nat.ne_of_lt (Nat.lt_succ_of_lt hlS)
        have hSf : s.heap.objs.size ∉ [g.objs.size, l] := by
          rw [hgs]
          simp only [List.mem_cons, List.not_mem_nil, or_false, not_or]
          exact ⟨Nat.ne_of_lt (Nat.lt_succ_self _), Nat.ne_of_gt hlS⟩
        have hW := ((Walks.list (prog := prog) (w := w) (A := A.in1.in1.in1) (by simp [hh]) _ l hneI items).toS)
        rw [hlen] at hW
        refine set_loop xs hW s.heap.objs.size hSf hnd (fun i v hv => strs_at hi i v (by rw [Array.getElem?_toList]; exact hv)) hb xs.length 0 _ (Nat.zero_add _) ⟨⟨_, Heap.get?_push_size _ rfl, rfl, rfl⟩, hl1.push _⟩ ?_ fun s' hm hS' => ?_
        · exact SetOf_congr ((setObjOf_fresh (knd := PySem.strKind prog w) led).setOf (Heap.get?_push_of_some _ hS) (by unfold scanBound; first | lia | omega)) (fun _ => by simp) rfl
        · obtain ⟨h', g', d', tk', os'⟩ := s'
          obtain rfl : g' = s.gens := hm.gens
          obtain rfl : d' = s.drawn := hm.drawn
          obtain rfl : os' = s.os := hm.os
          show wpAny _ _ _ _ _ _
          refine wpAny_pure ?_
          show wpAny _ _ (ret Value.none) _ _ _
          refine wpAny_pure ⟨rfl, h', tk', rfl, hS', fun b o hb e => ?_⟩
          refine hm.heap b o ?_ (Heap.get?_push_of_some _ (hup b o e))
          simp only [List.mem_cons, List.not_mem_nil, or_false, not_or]
          exact ⟨Nat.ne_of_lt hb, by rw [hgs]; exact Nat.ne_of_lt (Nat.lt_succ_of_lt hb)⟩
      · cases r₂ with
        | error e => exact hr₂
        | ok fl₂ =>
          cases fl₂ with
          | ret r =>
            obtain ⟨rfl, h', tk, rfl, hS', hk'⟩ := hr₂
            repeat (any_goals (first | assumption | wp_step))
            exact h _ _ hS' hk'
          | _ => exact hr₂.elim
    | _ => exact hr.elim
end
section
variable {prog : Program} {w : World} {A : Around} {E : Value → Shared → Prop} {s : Shared} {h₀ : Heap} {L l : Addr} {m : Str → Option Value} {news : List (Addr × Obj)} {vs : List Value} {n : Nat} {xs : List Str} {Q : Value → Shared → Prop}
theorem set_new (hh : A.handled = none) (F : Fr h₀ L s.heap m) (N : News h₀ L s.heap news) (hm : (l, PySem.W.listOf vs.toArray n) ∈ news) (hi : StrsAre vs xs) (hnd : xs.Nodup) (hb : xs.length + 1 < scanBound)
    (h : ∀ D h' (tk : Nat) o, Fr h₀ L h' m → News h₀ L h' ((D, o) :: news) → o.SetObjOf (PySem.strKind prog w) (fun k => decide (k ∈ xs.take xs.length)) xs.length → (∀ p ∈ news, p.1 < D) → Q (.ref D) { s with heap := h', toks := tk }) :
    wpAny (model prog w) A (call (.type "set") [.ref l]) Q E s := by
  have hl : s.heap.IsList l vs.toArray := ⟨_, (N _ hm).1, rfl, n, rfl⟩
  refine call_set_strs hh hl (by simpa using hi) hnd hb fun h' tk hS hk => ?_
  obtain ⟨o, ho, hso⟩ := hS.objOf
  have hLlt := F.ns.lt
  refine h _ h' tk o ⟨F.ns.at' fun o' e => hk L o' hLlt e, fun b o' e => hk b o' (Heap.lt_size (F.keep b o' e)) (F.keep b o' e), F.above⟩ (fun p hp => ?_) hso fun p hp => Heap.lt_size (N p hp).1
  rcases List.mem_cons.mp hp with rfl | hp
  · exact ⟨ho, Nat.ne_of_gt hLlt, next_is_new F⟩
  · exact ⟨hk _ _ (Heap.lt_size (N p hp).1) (N p hp).1, (N p hp).2.1, (N p hp).2.2⟩
end
end Mine
namespace Mine
theorem li_eof (w : World) (c : LexC) (rest led : List (Addr × Obj)) (st tk : Value) (pb : List Nat) (t : Tok) : MyCl w 555 8 led (LI w c rest led c.x.length st tk pb ∧ c.x.length ≤ 10000) [Value.ref c.sio, Value.int 1 t]
    (fun h₀ L m s Q => ∀ (t : Tok) (led' : List (Addr × Obj)) (h' : Heap) (tk' : Nat), Fr h₀ L h' m → News h₀ L h' led' → LI w c rest led' c.x.length st tk pb → Q (.str "" t) { s with heap := h', toks := tk' }) := by
  intro loose mean mg mb dp un gd cn cs a ccd cl outer A₀ base h₀ L m s Q E B0 F0 X0 N0 T0 kk hpre hdp hu hret
  refine li_read w c rest led _ st tk pb t _ _ _ _ _ _ _ _ _ _ _ _ _ _ _ _ _ _ _ _ _ B0 F0 X0 N0 T0 kk ⟨hpre.1, hpre.2, Nat.le_refl _⟩ hdp hu fun nx p' t' led' h' tk' hn _ F' N' I' => ?_
  have e : c.x.cps.toList.drop c.x.length = [] := List.drop_of_length_le (Nat.le_refl _)
  rcases hn with ⟨rfl, -, rfl⟩ | ⟨d, -, h⟩
  · exact hret t' led' h' tk' F' N' I'
  · rw [e] at h; cases h
theorem rt_none (w : World) (c : LexC) (rest led : List (Addr × Obj)) (tt : Tok) :
    MyCl w 712 12 led (LI w c rest led c.x.length .none (.str "" tt) [] ∧ c.x.length ≤ 10000) [Value.ref c.lx]
      (fun h₀ L m s Q => ∀ (tt' t' : Tok) (led' : List (Addr × Obj)) (h' : Heap) (tk' : Nat), Fr h₀ L h' m → News h₀ L h' led' → LI w c rest led' c.x.length .none (.str "" tt') [] → Q (.str "" t') { s with heap := h', toks := tk' }) := by
  k_with_none
  (k_with "k_room" => first | assumption | ktr_room)
  (k_with "k_mem" => assumption)
  (k_with "cell_enter" => (refine' code_def ?k1 ?k2 ?k3 ?k4 ?k5 ?kA ?kF ?kK ?k6 ?k7 ?k8 ?k9 ?kB ?_ ?c2 ?c3 ?c4 ?c5; (case kA => exact rfl); (case kF => exact rfl); (case kK => assumption); (case k1 => k_asm); (case k2 => k_asm); (case k3 => k_asm); (case k4 => k_asm); (case k5 => k_asm); (case k6 => k_is); (case k7 => k_is); (case k8 => k_room); (case k9 => first | exact BindsTo.of_eq rfl | exact binds_K (by k_in) rfl (by k_is) rfl rfl rfl | exact kp_binds (by k_in) (fun _ => by kernel_rfl)); (case c5 => decide); (case kB => exact locs rfl); (case c2 => exact rfl); (case c3 => exact rfl); (case c4 => exact rfl); k_whole; intro g L' hh FG F N B X T; (try dsimp only); (try k_lift B); (try k_fold)))
  (k_with "execs cons" => (k_here; k_fold))
  (k_with "execs cons" => (k_here; refine gen_tk ?_; intro tk))
  (k_with "eval Constant str" => (k_here; refine const_str ?_; intro t tk))
  (k_with "eval Constant int" => (k_here; refine const_int ?_; intro t tk))
  (k_with "eval Attribute Name" => (k_here; (with_reducible show wpAny _ _ (eval (Expr.Attribute (Expr.Name (PySem.Str.ofString "self") _) (PySem.Str.ofString "instream") _) _) _ _ _); k_dflt (refine' at_instream ?F ?X ?N ?I ?s ?_ ?a ?b; (case F => k_asm); (case X => k_asm); (case I => k_asm); (case N => first | k_asm | exact newsTl (by k_asm)); (case s => exact rfl); (case a => exact rfl); (case b => exact rfl)); intro tc))
  (k_with "eval Attribute Name" => (k_here; (with_reducible show wpAny _ _ (eval (Expr.Attribute (Expr.Name (PySem.Str.ofString "self") _) (PySem.Str.ofString "posix") _) _) _ _ _); k_dflt (refine' at_posix ?F ?X ?N ?I ?s ?_ ?a ?b; (case F => k_asm); (case X => k_asm); (case I => k_asm); (case N => first | k_asm | exact newsTl (by k_asm)); (case s => exact rfl); (case a => exact rfl); (case b => exact rfl)); intro tc))
  (k_with "eval Attribute Name" => (k_here; (with_reducible show wpAny _ _ (eval (Expr.Attribute (Expr.Name (PySem.Str.ofString "self") _) (PySem.Str.ofString "whitespace_split") _) _) _ _ _); k_dflt (refine' at_whitespace_split ?F ?X ?N ?I ?s ?_ ?a ?b; (case F => k_asm); (case X => k_asm); (case I => k_asm); (case N => first | k_asm | exact newsTl (by k_asm)); (case s => exact rfl); (case a => exact rfl); (case b => exact rfl)); intro tc))
  (k_with "eval Attribute Name" => (k_here; (with_reducible show wpAny _ _ (eval (Expr.Attribute (Expr.Name (PySem.Str.ofString "self") _) (PySem.Str.ofString "pushback") _) _) _ _ _); k_dflt (refine' at_pushback ?F ?X ?N ?I ?s ?_ ?a ?b; (case F => k_asm); (case X => k_asm); (case I => k_asm); (case N => first | k_asm | exact newsTl (by k_asm)); (case s => exact rfl); (case a => exact rfl); (case b => exact rfl)); intro tc))
  (k_with "eval Attribute Name" => (k_here; (with_reducible show wpAny _ _ (eval (Expr.Attribute (Expr.Name (PySem.Str.ofString "self") _) (PySem.Str.ofString "filestack") _) _) _ _ _); k_dflt (refine' at_filestack ?F ?X ?N ?I ?s ?_ ?a ?b; (case F => k_asm); (case X => k_asm); (case I => k_asm); (case N => first | k_asm | exact newsTl (by k_asm)); (case s => exact rfl); (case a => exact rfl); (case b => exact rfl)); intro tc))
  (k_with "eval Attribute Name" => (k_here; (with_reducible show wpAny _ _ (eval (Expr.Attribute (Expr.Name (PySem.Str.ofString "self") _) (PySem.Str.ofString "_pushback_chars") _) _) _ _ _); k_dflt (refine' at_pbc ?F ?X ?N ?I ?s ?_ ?a ?b; (case F => k_asm); (case X => k_asm); (case I => k_asm); (case N => first | k_asm | exact newsTl (by k_asm)); (case s => exact rfl); (case a => exact rfl); (case b => exact rfl)); intro tc))
  (k_with "eval Attribute Name" => (k_here; (with_reducible show wpAny _ _ (eval (Expr.Attribute (Expr.Name (PySem.Str.ofString "self") _) (PySem.Str.ofString "source") _) _) _ _ _); k_dflt (refine' at_source ?F ?X ?N ?I ?s ?_ ?a ?b; (case F => k_asm); (case X => k_asm); (case I => k_asm); (case N => first | k_asm | exact newsTl (by k_asm)); (case s => exact rfl); (case a => exact rfl); (case b => exact rfl)); intro tc))
  (k_with "eval Attribute Name" => (k_here; (with_reducible show wpAny _ _ (eval (Expr.Attribute (Expr.Name (PySem.Str.ofString "self") _) (PySem.Str.ofString "eof") _) _) _ _ _); k_dflt (refine' at_eof ?F ?X ?N ?I ?s ?_ ?a ?b; (case F => k_asm); (case X => k_asm); (case I => k_asm); (case N => first | k_asm | exact newsTl (by k_asm)); (case s => exact rfl); (case a => exact rfl); (case b => exact rfl)); intro t tc))
  (k_with "eval Attribute Name" => (k_here; (with_reducible show wpAny _ _ (eval (Expr.Attribute (Expr.Name (PySem.Str.ofString "self") _) (PySem.Str.ofString "commenters") _) _) _ _ _); k_dflt (refine' at_commenters ?F ?X ?N ?I ?s ?_ ?a ?b; (case F => k_asm); (case X => k_asm); (case I => k_asm); (case N => first | k_asm | exact newsTl (by k_asm)); (case s => exact rfl); (case a => exact rfl); (case b => exact rfl)); intro t tc))
  (k_with "eval Attribute Name" => (k_here; (with_reducible show wpAny _ _ (eval (Expr.Attribute (Expr.Name (PySem.Str.ofString "self") _) (PySem.Str.ofString "wordchars") _) _) _ _ _); k_dflt (refine' at_wordchars ?F ?X ?N ?I ?s ?_ ?a ?b; (case F => k_asm); (case X => k_asm); (case I => k_asm); (case N => first | k_asm | exact newsTl (by k_asm)); (case s => exact rfl); (case a => exact rfl); (case b => exact rfl)); intro t tc))
  (k_with "eval Attribute Name" => (k_here; (with_reducible show wpAny _ _ (eval (Expr.Attribute (Expr.Name (PySem.Str.ofString "self") _) (PySem.Str.ofString "whitespace") _) _) _ _ _); k_dflt (refine' at_whitespace ?F ?X ?N ?I ?s ?_ ?a ?b; (case F => k_asm); (case X => k_asm); (case I => k_asm); (case N => first | k_asm | exact newsTl (by k_asm)); (case s => exact rfl); (case a => exact rfl); (case b => exact rfl)); intro t tc))
  (k_with "eval Attribute Name" => (k_here; (with_reducible show wpAny _ _ (eval (Expr.Attribute (Expr.Name (PySem.Str.ofString "self") _) (PySem.Str.ofString "quotes") _) _) _ _ _); k_dflt (refine' at_quotes ?F ?X ?N ?I ?s ?_ ?a ?b; (case F => k_asm); (case X => k_asm); (case I => k_asm); (case N => first | k_asm | exact newsTl (by k_asm)); (case s => exact rfl); (case a => exact rfl); (case b => exact rfl)); intro t tc))
  (k_with "eval Attribute Name" => (k_here; (with_reducible show wpAny _ _ (eval (Expr.Attribute (Expr.Name (PySem.Str.ofString "self") _) (PySem.Str.ofString "escape") _) _) _ _ _); k_dflt (refine' at_escape ?F ?X ?N ?I ?s ?_ ?a ?b; (case F => k_asm); (case X => k_asm); (case I => k_asm); (case N => first | k_asm | exact newsTl (by k_asm)); (case s => exact rfl); (case a => exact rfl); (case b => exact rfl)); intro t tc))
  (k_with "eval Attribute Name" => (k_here; (with_reducible show wpAny _ _ (eval (Expr.Attribute (Expr.Name (PySem.Str.ofString "self") _) (PySem.Str.ofString "escapedquotes") _) _) _ _ _); k_dflt (refine' at_escapedquotes ?F ?X ?N ?I ?s ?_ ?a ?b; (case F => k_asm); (case X => k_asm); (case I => k_asm); (case N => first | k_asm | exact newsTl (by k_asm)); (case s => exact rfl); (case a => exact rfl); (case b => exact rfl)); intro t tc))
  (k_with "eval Attribute Name" => (k_here; (with_reducible show wpAny _ _ (eval (Expr.Attribute (Expr.Name (PySem.Str.ofString "self") _) (PySem.Str.ofString "_punctuation_chars") _) _) _ _ _); k_dflt (refine' at_punctuation_chars ?F ?X ?N ?I ?s ?_ ?a ?b; (case F => k_asm); (case X => k_asm); (case I => k_asm); (case N => first | k_asm | exact newsTl (by k_asm)); (case s => exact rfl); (case a => exact rfl); (case b => exact rfl)); intro t tc))
  (k_with "eval Attribute Name" => (k_here; (with_reducible show wpAny _ _ (eval (Expr.Attribute (Expr.Name (PySem.Str.ofString "self") _) (PySem.Str.ofString "state") _) _) _ _ _); k_dflt (refine' at_state ?F ?X ?N ?I ?s ?hh ?_ ?a ?b; (case F => k_asm); (case X => k_asm); (case I => k_asm); (case N => first | k_asm | exact newsTl (by k_asm)); (case s => exact rfl); (case hh => exact rfl); (case a => exact rfl); (case b => exact rfl)); intro tc))
  (k_with "eval Attribute Name" => (k_here; (with_reducible show wpAny _ _ (eval (Expr.Attribute (Expr.Name (PySem.Str.ofString "self") _) (PySem.Str.ofString "token") _) _) _ _ _); k_dflt (refine' at_token ?F ?X ?N ?I ?s ?hh ?_ ?a ?b; (case F => k_asm); (case X => k_asm); (case I => k_asm); (case N => first | k_asm | exact newsTl (by k_asm)); (case s => exact rfl); (case hh => exact rfl); (case a => exact rfl); (case b => exact rfl)); intro tc))
  (k_with "eval Attribute Name" => (k_here; (with_reducible show wpAny _ _ (eval (Expr.Attribute (Expr.Name (PySem.Str.ofString "self") _) (PySem.Str.ofString "debug") _) _) _ _ _); k_dflt (refine' at_debug ?F ?X ?N ?I ?s ?_ ?a ?b; (case F => k_asm); (case X => k_asm); (case I => k_asm); (case N => first | k_asm | exact newsTl (by k_asm)); (case s => exact rfl); (case a => exact rfl); (case b => exact rfl)); intro t tc))
  (k_with "getAttr ref" => (k_here; (with_reducible show wpAny _ _ (getAttr _ (PySem.Str.ofString "state") _) _ _ _); k_dflt (refine' li_state ?F ?X ?N ?I ?hh ?_; (case F => k_asm); (case X => k_asm); (case I => k_asm); (case N => first | k_asm | exact newsTl (by k_asm)); (case hh => exact rfl)); intro tc))
  (k_with "getAttr ref" => (k_here; (with_reducible show wpAny _ _ (getAttr _ (PySem.Str.ofString "token") _) _ _ _); k_dflt (refine' li_token ?F ?X ?N ?I ?hh ?_; (case F => k_asm); (case X => k_asm); (case I => k_asm); (case N => first | k_asm | exact newsTl (by k_asm)); (case hh => exact rfl)); intro tc))
  (k_with "getAttr ref" => (k_here; (with_reducible show wpAny _ _ (getAttr _ (PySem.Str.ofString "lineno") _) _ _ _); k_dflt (refine' li_lineno ?F ?X ?N ?I ?_; (case F => k_asm); (case X => k_asm); (case I => k_asm); (case N => first | k_asm | exact newsTl (by k_asm));); intro i t tc))
  (k_with "setAttr ref" => (k_here; (with_reducible show wpAny _ _ (setAttr _ (PySem.Str.ofString "state") _) _ _ _); k_dflt (refine' li_setSt ?F ?X ?N ?I ?_; (case F => k_asm); (case X => k_asm); (case I => k_asm); (case N => first | k_asm | exact newsTl (by k_asm))); intro h7 led7 tc F7 N7 I7))
  (k_with "setAttr ref" => (k_here; (with_reducible show wpAny _ _ (setAttr _ (PySem.Str.ofString "token") _) _ _ _); k_dflt (refine' li_setTk ?F ?X ?N ?I ?_; (case F => k_asm); (case X => k_asm); (case I => k_asm); (case N => first | k_asm | exact newsTl (by k_asm))); intro h7 led7 tc F7 N7 I7))
  (k_with "setAttr ref" => (k_here; (with_reducible show wpAny _ _ (setAttr _ (PySem.Str.ofString "lineno") _) _ _ _); k_dflt (refine' li_setLn ?F ?X ?N ?I ?_; (case F => k_asm); (case X => k_asm); (case I => k_asm); (case N => first | k_asm | exact newsTl (by k_asm))); intro h7 led7 tc F7 N7 I7))
  (k_with "truthy ref" => (k_here; first
  | (refine' li_truth3 ?N ?I ?l ?_; (case I => k_asm); (case N => first | k_asm | exact newsTl (by k_asm)); (case l => first | assumption | decide); intro tc; (try dsimp only [List.isEmpty_nil, List.isEmpty_cons, Bool.not_true, Bool.not_false]))
  | (refine' li_truth1 ?N ?I ?_; (case I => k_asm); (case N => first | k_asm | exact newsTl (by k_asm)); intro tc)
  | (refine' li_truth2 ?N ?I ?_; (case I => k_asm); (case N => first | k_asm | exact newsTl (by k_asm)); intro tc)))
  (k_with "getMethod ref" => (k_here; (with_reducible show wpAny _ _ (getMethod (Value.ref _) (PySem.Str.ofString "append") _) _ _ _); refine' li_appM ?N ?I ?_; (case I => k_asm); (case N => first | k_asm | exact newsTl (by k_asm))))
  (k_with "getMethod ref" => (k_here; (with_reducible show wpAny _ _ (getMethod (Value.ref _) (PySem.Str.ofString "pop") _) _ _ _); refine' li_popM ?N ?I ?_; (case I => k_asm); (case N => first | k_asm | exact newsTl (by k_asm))))
  (k_with "getMethod ref" => (k_here; (with_reducible show wpAny _ _ (getMethod (Value.ref _) (PySem.Str.ofString "read") _) _ _ _); refine' li_readM ?F ?X ?N ?I ?_; (case F => k_asm); (case X => k_asm); (case I => k_asm); (case N => first | k_asm | exact newsTl (by k_asm))))
  (k_with "getMethod ref" => (k_here; (with_reducible show wpAny _ _ (getMethod (Value.ref _) (PySem.Str.ofString "read_token") _) _ _ _); refine' li_tokM ?F ?X ?N ?I ?_; (case F => k_asm); (case X => k_asm); (case I => k_asm); (case N => first | k_asm | exact newsTl (by k_asm))))
  (k_with "getMethod ref" => (k_here; (with_reducible show wpAny _ _ (getMethod (Value.ref _) (PySem.Str.ofString "get_token") _) _ _ _); refine' li_gettM ?F ?X ?N ?I ?_; (case F => k_asm); (case X => k_asm); (case I => k_asm); (case N => first | k_asm | exact newsTl (by k_asm))))
  (k_with "call builtin:collections.deque.append" => (k_here; refine' li_app ?F ?N ?I ?_; (case F => k_asm); (case I => k_asm); (case N => first | k_asm | exact newsTl (by k_asm)); intro h7 led7 F7 N7 I7))
  (k_with "call builtin:collections.deque.pop" => (k_here; refine' li_pop ?F ?N ?I ?_; (case F => k_asm); (case I => k_asm); (case N => first | k_asm | exact newsTl (by k_asm)); intro h7 led7 t7 F7 N7 I7))
  (k_with "call ref" => (k_here; (with_reducible show wpAny _ _ (PySem.call (Value.ref 555) [Value.ref _, Value.int _ _]) _ _ _); (k_dflt (refine' li_eof _ _ _ _ _ _ _ _ _ _ _ _ _ _ _ _ _ _ _ _ _ _ _ _ _ _ _ _ _ ?k1 ?k2 ?k3 ?k4 ?k5 ?kK ?kp ?kd ?ku ?_; (case k1 => k_asm); (case k2 => k_asm); (case k3 => k_asm); (case k5 => k_asm); (case kK => exact rfl); (case kp => exact ⟨by assumption, by assumption⟩); (case k4 => first | k_asm | exact newsTl (by k_asm)); (case kd => k_room); (case ku => k_room); intro t7 led7 h7 tk7 F7 N7 I7; (try dsimp only); (try k_fold)))))
  (k_with "eval Attribute Name" => (k_here; (with_reducible show wpAny _ _ (eval (Expr.Attribute (Expr.Name (PySem.Str.ofString "self") _) (PySem.Str.ofString "punctuation_chars") _) _) _ _ _); (k_dflt (refine' at_punct ?k1 ?k2 ?k3 ?k4 ?k5 ?kK ?kp ?s ?kd ?ku ?_ ?b; (case k1 => k_asm); (case k2 => k_asm); (case k3 => k_asm); (case k5 => k_asm); (case kK => exact rfl); (case kp => k_asm); (case k4 => first | k_asm | exact newsTl (by k_asm)); (case s => exact rfl); (case kd => k_room); (case ku => k_room); (case b => exact rfl); intro t7 h7 tk7 F7 N7; (try dsimp only); (try k_fold)))))
  (k_with "truthy str" => (k_here; refine' truthy_pos' ?a ?b ?_; (case a => with_reducible assumption); (case b => with_reducible assumption); intro tq))
  (k_with "truthy str" => (k_here; (with_reducible show wpAny _ _ (truthy (Value.str (ch1 _) _)) _ _ _); refine truthy_ch ?_; intro tq))
  (k_with "compareOp Eq str str" => (k_here; refine' eq_is ?e ?_; (case e => first | with_reducible assumption | exact (show _ = true by decide +kernel) | exact (show _ = false by decide +kernel))))
  (k_with "compareOp In str str" => (k_here; first
  | (refine' in_is ?e ?_; (case e => first | with_reducible assumption | exact (show _ = true by decide +kernel) | exact (show _ = false by decide +kernel)))
  | refine hold_of ?_))
  (k_with "exec If" => (k_here; refine wpAny_If ?_))
  (k_with "compareOp NotIn str str" => (k_here; first
  | (refine' notIn_is ?e ?_; (case e => first | with_reducible assumption | exact (show _ = true by decide +kernel) | exact (show _ = false by decide +kernel)); (try dsimp only [Bool.not_true, Bool.not_false]))
  | refine hold_of ?_))
  dsimp only [MyCl]; k_fill; intros
  rename_i loose mean mg mb dp un gd cn cs a ccd cl outer A₀ base h₀ L m s Q E B0 F0 X0 N0 T0 kk hpre hdp hu hret
  obtain ⟨I, hx⟩ := hpre
  have r0 : dp < recursionLimit := Nat.lt_of_le_of_lt (Nat.le_add_right _ _) hdp
  have r1 : dp + 1 < recursionLimit := rm (b := 1) hdp (by decide)
  have r5 : dp + 1 + 4 < recursionLimit := rm (b := 5) hdp (by decide)
  have r8 : dp + 1 + 8 < recursionLimit := rm (b := 9) hdp (by decide)
  have u5 : un + 3 + 64 < cLine := rm (b := 67) hu (by decide)
  have u8 : un + 3 + 16 * 8 < cLine := rm (b := 131) hu (by decide)
  refine wpAny_call ?_
  k_dflt cell_enter
  refine let_A ?_
  intro A1
  k_steps
  all_goals exact hret _ _ _ _ _ (by k_asm) (by k_asm) (by k_asm)
theorem gt_none (w : World) (c : LexC) (rest led : List (Addr × Obj)) (tt : Tok) :
    MyCl w 705 16 led (LI w c rest led c.x.length .none (.str "" tt) [] ∧ c.x.length ≤ 10000) [Value.ref c.lx]
      (fun h₀ L m s Q => ∀ (tt' t' : Tok) (led' : List (Addr × Obj)) (h' : Heap) (tk' : Nat), Fr h₀ L h' m → News h₀ L h' led' → LI w c rest led' c.x.length .none (.str "" tt') [] → Q (.str "" t') { s with heap := h', toks := tk' }) := by
  k_with_none
  (k_with "k_room" => first | assumption | ktr_room)
  (k_with "k_mem" => assumption)
  (k_with "cell_enter" => (refine' code_def ?k1 ?k2 ?k3 ?k4 ?k5 ?kA ?kF ?kK ?k6 ?k7 ?k8 ?k9 ?kB ?_ ?c2 ?c3 ?c4 ?c5; (case kA => exact rfl); (case kF => exact rfl); (case kK => assumption); (case k1 => k_asm); (case k2 => k_asm); (case k3 => k_asm); (case k4 => k_asm); (case k5 => k_asm); (case k6 => k_is); (case k7 => k_is); (case k8 => k_room); (case k9 => first | exact BindsTo.of_eq rfl | exact binds_K (by k_in) rfl (by k_is) rfl rfl rfl | exact kp_binds (by k_in) (fun _ => by kernel_rfl)); (case c5 => decide); (case kB => exact locs rfl); (case c2 => exact rfl); (case c3 => exact rfl); (case c4 => exact rfl); k_whole; intro g L' hh FG F N B X T; (try dsimp only); (try k_lift B); (try k_fold)))
  (k_with "execs cons" => (k_here; k_fold))
  (k_with "execs cons" => (k_here; refine gen_tk ?_; intro tk))
  (k_with "eval Constant str" => (k_here; refine const_str ?_; intro t tk))
  (k_with "eval Constant int" => (k_here; refine const_int ?_; intro t tk))
  (k_with "eval Attribute Name" => (k_here; (with_reducible show wpAny _ _ (eval (Expr.Attribute (Expr.Name (PySem.Str.ofString "self") _) (PySem.Str.ofString "instream") _) _) _ _ _); k_dflt (refine' at_instream ?F ?X ?N ?I ?s ?_ ?a ?b; (case F => k_asm); (case X => k_asm); (case I => k_asm); (case N => first | k_asm | exact newsTl (by k_asm)); (case s => exact rfl); (case a => exact rfl); (case b => exact rfl)); intro tc))
  (k_with "eval Attribute Name" => (k_here; (with_reducible show wpAny _ _ (eval (Expr.Attribute (Expr.Name (PySem.Str.ofString "self") _) (PySem.Str.ofString "posix") _) _) _ _ _); k_dflt (refine' at_posix ?F ?X ?N ?I ?s ?_ ?a ?b; (case F => k_asm); (case X => k_asm); (case I => k_asm); (case N => first | k_asm | exact newsTl (by k_asm)); (case s => exact rfl); (case a => exact rfl); (case b => exact rfl)); intro tc))
  (k_with "eval Attribute Name" => (k_here; (with_reducible show wpAny _ _ (eval (Expr.Attribute (Expr.Name (PySem.Str.ofString "self") _) (PySem.Str.ofString "whitespace_split") _) _) _ _ _); k_dflt (refine' at_whitespace_split ?F ?X ?N ?I ?s ?_ ?a ?b; (case F => k_asm); (case X => k_asm); (case I => k_asm); (case N => first | k_asm | exact newsTl (by k_asm)); (case s => exact rfl); (case a => exact rfl); (case b => exact rfl)); intro tc))
  (k_with "eval Attribute Name" => (k_here; (with_reducible show wpAny _ _ (eval (Expr.Attribute (Expr.Name (PySem.Str.ofString "self") _) (PySem.Str.ofString "pushback") _) _) _ _ _); k_dflt (refine' at_pushback ?F ?X ?N ?I ?s ?_ ?a ?b; (case F => k_asm); (case X => k_asm); (case I => k_asm); (case N => first | k_asm | exact newsTl (by k_asm)); (case s => exact rfl); (case a => exact rfl); (case b => exact rfl)); intro tc))
  (k_with "eval Attribute Name" => (k_here; (with_reducible show wpAny _ _ (eval (Expr.Attribute (Expr.Name (PySem.Str.ofString "self") _) (PySem.Str.ofString "filestack") _) _) _ _ _); k_dflt (refine' at_filestack ?F ?X ?N ?I ?s ?_ ?a ?b; (case F => k_asm); (case X => k_asm); (case I => k_asm); (case N => first | k_asm | exact newsTl (by k_asm)); (case s => exact rfl); (case a => exact rfl); (case b => exact rfl)); intro tc))
  (k_with "eval Attribute Name" => (k_here; (with_reducible show wpAny _ _ (eval (Expr.Attribute (Expr.Name (PySem.Str.ofString "self") _) (PySem.Str.ofString "_pushback_chars") _) _) _ _ _); k_dflt (refine' at_pbc ?F ?X ?N ?I ?s ?_ ?a ?b; (case F => k_asm); (case X => k_asm); (case I => k_asm); (case N => first | k_asm | exact newsTl (by k_asm)); (case s => exact rfl); (case a => exact rfl); (case b => exact rfl)); intro tc))
  (k_with "eval Attribute Name" => (k_here; (with_reducible show wpAny _ _ (eval (Expr.Attribute (Expr.Name (PySem.Str.ofString "self") _) (PySem.Str.ofString "source") _) _) _ _ _); k_dflt (refine' at_source ?F ?X ?N ?I ?s ?_ ?a ?b; (case F => k_asm); (case X => k_asm); (case I => k_asm); (case N => first | k_asm | exact newsTl (by k_asm)); (case s => exact rfl); (case a => exact rfl); (case b => exact rfl)); intro tc))
  (k_with "eval Attribute Name" => (k_here; (with_reducible show wpAny _ _ (eval (Expr.Attribute (Expr.Name (PySem.Str.ofString "self") _) (PySem.Str.ofString "eof") _) _) _ _ _); k_dflt (refine' at_eof ?F ?X ?N ?I ?s ?_ ?a ?b; (case F => k_asm); (case X => k_asm); (case I => k_asm); (case N => first | k_asm | exact newsTl (by k_asm)); (case s => exact rfl); (case a => exact rfl); (case b => exact rfl)); intro t tc))
  (k_with "eval Attribute Name" => (k_here; (with_reducible show wpAny _ _ (eval (Expr.Attribute (Expr.Name (PySem.Str.ofString "self") _) (PySem.Str.ofString "commenters") _) _) _ _ _); k_dflt (refine' at_commenters ?F ?X ?N ?I ?s ?_ ?a ?b; (case F => k_asm); (case X => k_asm); (case I => k_asm); (case N => first | k_asm | exact newsTl (by k_asm)); (case s => exact rfl); (case a => exact rfl); (case b => exact rfl)); intro t tc))
  (k_with "eval Attribute Name" => (k_here; (with_reducible show wpAny _ _ (eval (Expr.Attribute (Expr.Name (PySem.Str.ofString "self") _) (PySem.Str.ofString "wordchars") _) _) _ _ _); k_dflt (refine' at_wordchars ?F ?X ?N ?I ?s ?_ ?a ?b; (case F => k_asm); (case X => k_asm); (case I => k_asm); (case N => first | k_asm | exact newsTl (by k_asm)); (case s => exact rfl); (case a => exact rfl); (case b => exact rfl)); intro t tc))
  (k_with "eval Attribute Name" => (k_here; (with_reducible show wpAny _ _ (eval (Expr.Attribute (Expr.Name (PySem.Str.ofString "self") _) (PySem.Str.ofString "whitespace") _) _) _ _ _); k_dflt (refine' at_whitespace ?F ?X ?N ?I ?s ?_ ?a ?b; (case F => k_asm); (case X => k_asm); (case I => k_asm); (case N => first | k_asm | exact newsTl (by k_asm)); (case s => exact rfl); (case a => exact rfl); (case b => exact rfl)); intro t tc))
  (k_with "eval Attribute Name" => (k_here; (with_reducible show wpAny _ _ (eval (Expr.Attribute (Expr.Name (PySem.Str.ofString "self") _) (PySem.Str.ofString "quotes") _) _) _ _ _); k_dflt (refine' at_quotes ?F ?X ?N ?I ?s ?_ ?a ?b; (case F => k_asm); (case X => k_asm); (case I => k_asm); (case N => first | k_asm | exact newsTl (by k_asm)); (case s => exact rfl); (case a => exact rfl); (case b => exact rfl)); intro t tc))
  (k_with "eval Attribute Name" => (k_here; (with_reducible show wpAny _ _ (eval (Expr.Attribute (Expr.Name (PySem.Str.ofString "self") _) (PySem.Str.ofString "escape") _) _) _ _ _); k_dflt (refine' at_escape ?F ?X ?N ?I ?s ?_ ?a ?b; (case F => k_asm); (case X => k_asm); (case I => k_asm); (case N => first | k_asm | exact newsTl (by k_asm)); (case s => exact rfl); (case a => exact rfl); (case b => exact rfl)); intro t tc))
  (k_with "eval Attribute Name" => (k_here; (with_reducible show wpAny _ _ (eval (Expr.Attribute (Expr.Name (PySem.Str.ofString "self") _) (PySem.Str.ofString "escapedquotes") _) _) _ _ _); k_dflt (refine' at_escapedquotes ?F ?X ?N ?I ?s ?_ ?a ?b; (case F => k_asm); (case X => k_asm); (case I => k_asm); (case N => first | k_asm | exact newsTl (by k_asm)); (case s => exact rfl); (case a => exact rfl); (case b => exact rfl)); intro t tc))
  (k_with "eval Attribute Name" => (k_here; (with_reducible show wpAny _ _ (eval (Expr.Attribute (Expr.Name (PySem.Str.ofString "self") _) (PySem.Str.ofString "_punctuation_chars") _) _) _ _ _); k_dflt (refine' at_punctuation_chars ?F ?X ?N ?I ?s ?_ ?a ?b; (case F => k_asm); (case X => k_asm); (case I => k_asm); (case N => first | k_asm | exact newsTl (by k_asm)); (case s => exact rfl); (case a => exact rfl); (case b => exact rfl)); intro t tc))
  (k_with "eval Attribute Name" => (k_here; (with_reducible show wpAny _ _ (eval (Expr.Attribute (Expr.Name (PySem.Str.ofString "self") _) (PySem.Str.ofString "state") _) _) _ _ _); k_dflt (refine' at_state ?F ?X ?N ?I ?s ?hh ?_ ?a ?b; (case F => k_asm); (case X => k_asm); (case I => k_asm); (case N => first | k_asm | exact newsTl (by k_asm)); (case s => exact rfl); (case hh => exact rfl); (case a => exact rfl); (case b => exact rfl)); intro tc))
  (k_with "eval Attribute Name" => (k_here; (with_reducible show wpAny _ _ (eval (Expr.Attribute (Expr.Name (PySem.Str.ofString "self") _) (PySem.Str.ofString "token") _) _) _ _ _); k_dflt (refine' at_token ?F ?X ?N ?I ?s ?hh ?_ ?a ?b; (case F => k_asm); (case X => k_asm); (case I => k_asm); (case N => first | k_asm | exact newsTl (by k_asm)); (case s => exact rfl); (case hh => exact rfl); (case a => exact rfl); (case b => exact rfl)); intro tc))
  (k_with "eval Attribute Name" => (k_here; (with_reducible show wpAny _ _ (eval (Expr.Attribute (Expr.Name (PySem.Str.ofString "self") _) (PySem.Str.ofString "debug") _) _) _ _ _); k_dflt (refine' at_debug ?F ?X ?N ?I ?s ?_ ?a ?b; (case F => k_asm); (case X => k_asm); (case I => k_asm); (case N => first | k_asm | exact newsTl (by k_asm)); (case s => exact rfl); (case a => exact rfl); (case b => exact rfl)); intro t tc))
  (k_with "getAttr ref" => (k_here; (with_reducible show wpAny _ _ (getAttr _ (PySem.Str.ofString "state") _) _ _ _); k_dflt (refine' li_state ?F ?X ?N ?I ?hh ?_; (case F => k_asm); (case X => k_asm); (case I => k_asm); (case N => first | k_asm | exact newsTl (by k_asm)); (case hh => exact rfl)); intro tc))
  (k_with "getAttr ref" => (k_here; (with_reducible show wpAny _ _ (getAttr _ (PySem.Str.ofString "token") _) _ _ _); k_dflt (refine' li_token ?F ?X ?N ?I ?hh ?_; (case F => k_asm); (case X => k_asm); (case I => k_asm); (case N => first | k_asm | exact newsTl (by k_asm)); (case hh => exact rfl)); intro tc))
  (k_with "getAttr ref" => (k_here; (with_reducible show wpAny _ _ (getAttr _ (PySem.Str.ofString "lineno") _) _ _ _); k_dflt (refine' li_lineno ?F ?X ?N ?I ?_; (case F => k_asm); (case X => k_asm); (case I => k_asm); (case N => first | k_asm | exact newsTl (by k_asm));); intro i t tc))
  (k_with "setAttr ref" => (k_here; (with_reducible show wpAny _ _ (setAttr _ (PySem.Str.ofString "state") _) _ _ _); k_dflt (refine' li_setSt ?F ?X ?N ?I ?_; (case F => k_asm); (case X => k_asm); (case I => k_asm); (case N => first | k_asm | exact newsTl (by k_asm))); intro h7 led7 tc F7 N7 I7))
  (k_with "setAttr ref" => (k_here; (with_reducible show wpAny _ _ (setAttr _ (PySem.Str.ofString "token") _) _ _ _); k_dflt (refine' li_setTk ?F ?X ?N ?I ?_; (case F => k_asm); (case X => k_asm); (case I => k_asm); (case N => first | k_asm | exact newsTl (by k_asm))); intro h7 led7 tc F7 N7 I7))
  (k_with "setAttr ref" => (k_here; (with_reducible show wpAny _ _ (setAttr _ (PySem.Str.ofString "lineno") _) _ _ _); k_dflt (refine' li_setLn ?F ?X ?N ?I ?_; (case F => k_asm); (case X => k_asm); (case I => k_asm); (case N => first | k_asm | exact newsTl (by k_asm))); intro h7 led7 tc F7 N7 I7))
  (k_with "truthy ref" => (k_here; first
  | (refine' li_truth3 ?N ?I ?l ?_; (case I => k_asm); (case N => first | k_asm | exact newsTl (by k_asm)); (case l => first | assumption | decide); intro tc; (try dsimp only [List.isEmpty_nil, List.isEmpty_cons, Bool.not_true, Bool.not_false]))
  | (refine' li_truth1 ?N ?I ?_; (case I => k_asm); (case N => first | k_asm | exact newsTl (by k_asm)); intro tc)
  | (refine' li_truth2 ?N ?I ?_; (case I => k_asm); (case N => first | k_asm | exact newsTl (by k_asm)); intro tc)))
  (k_with "getMethod ref" => (k_here; (with_reducible show wpAny _ _ (getMethod (Value.ref _) (PySem.Str.ofString "append") _) _ _ _); refine' li_appM ?N ?I ?_; (case I => k_asm); (case N => first | k_asm | exact newsTl (by k_asm))))
  (k_with "getMethod ref" => (k_here; (with_reducible show wpAny _ _ (getMethod (Value.ref _) (PySem.Str.ofString "pop") _) _ _ _); refine' li_popM ?N ?I ?_; (case I => k_asm); (case N => first | k_asm | exact newsTl (by k_asm))))
  (k_with "getMethod ref" => (k_here; (with_reducible show wpAny _ _ (getMethod (Value.ref _) (PySem.Str.ofString "read") _) _ _ _); refine' li_readM ?F ?X ?N ?I ?_; (case F => k_asm); (case X => k_asm); (case I => k_asm); (case N => first | k_asm | exact newsTl (by k_asm))))
  (k_with "getMethod ref" => (k_here; (with_reducible show wpAny _ _ (getMethod (Value.ref _) (PySem.Str.ofString "read_token") _) _ _ _); refine' li_tokM ?F ?X ?N ?I ?_; (case F => k_asm); (case X => k_asm); (case I => k_asm); (case N => first | k_asm | exact newsTl (by k_asm))))
  (k_with "getMethod ref" => (k_here; (with_reducible show wpAny _ _ (getMethod (Value.ref _) (PySem.Str.ofString "get_token") _) _ _ _); refine' li_gettM ?F ?X ?N ?I ?_; (case F => k_asm); (case X => k_asm); (case I => k_asm); (case N => first | k_asm | exact newsTl (by k_asm))))
  (k_with "call builtin:collections.deque.append" => (k_here; refine' li_app ?F ?N ?I ?_; (case F => k_asm); (case I => k_asm); (case N => first | k_asm | exact newsTl (by k_asm)); intro h7 led7 F7 N7 I7))
  (k_with "call builtin:collections.deque.pop" => (k_here; refine' li_pop ?F ?N ?I ?_; (case F => k_asm); (case I => k_asm); (case N => first | k_asm | exact newsTl (by k_asm)); intro h7 led7 t7 F7 N7 I7))
  (k_with "call ref" => (k_here; refine hold_of ?_))
  (k_with "eval Attribute Name" => (k_here; (with_reducible show wpAny _ _ (eval (Expr.Attribute (Expr.Name (PySem.Str.ofString "self") _) (PySem.Str.ofString "punctuation_chars") _) _) _ _ _); (k_dflt (refine' at_punct ?k1 ?k2 ?k3 ?k4 ?k5 ?kK ?kp ?s ?kd ?ku ?_ ?b; (case k1 => k_asm); (case k2 => k_asm); (case k3 => k_asm); (case k5 => k_asm); (case kK => exact rfl); (case kp => k_asm); (case k4 => first | k_asm | exact newsTl (by k_asm)); (case s => exact rfl); (case kd => k_room); (case ku => k_room); (case b => exact rfl); intro t7 h7 tk7 F7 N7; (try dsimp only); (try k_fold)))))
  (k_with "truthy str" => (k_here; refine' truthy_pos' ?a ?b ?_; (case a => with_reducible assumption); (case b => with_reducible assumption); intro tq))
  (k_with "truthy str" => (k_here; (with_reducible show wpAny _ _ (truthy (Value.str (ch1 _) _)) _ _ _); refine truthy_ch ?_; intro tq))
  (k_with "compareOp Eq str str" => (k_here; refine' eq_is ?e ?_; (case e => first | with_reducible assumption | exact (show _ = true by decide +kernel) | exact (show _ = false by decide +kernel))))
  (k_with "compareOp In str str" => (k_here; first
  | (refine' in_is ?e ?_; (case e => first | with_reducible assumption | exact (show _ = true by decide +kernel) | exact (show _ = false by decide +kernel)))
  | refine hold_of ?_))
  (k_with "exec If" => (k_here; refine wpAny_If ?_))
  (k_with "compareOp NotIn str str" => (k_here; first
  | (refine' notIn_is ?e ?_; (case e => first | with_reducible assumption | exact (show _ = true by decide +kernel) | exact (show _ = false by decide +kernel)); (try dsimp only [Bool.not_true, Bool.not_false]))
  | refine hold_of ?_))
  dsimp only [MyCl]; k_fill; intros
  rename_i loose mean mg mb dp un gd cn cs a ccd cl outer A₀ base h₀ L m s Q E B0 F0 X0 N0 T0 kk hpre hdp hu hret
  have I := hpre.1
  have r0 : dp < recursionLimit := Nat.lt_of_le_of_lt (Nat.le_add_right _ _) hdp
  have r1 : dp + 1 < recursionLimit := rm (b := 1) hdp (by decide)
  have r8 : dp + 1 + 12 < recursionLimit := rm (b := 13) hdp (by decide)
  have u8 : un + 3 + 16 * 12 < cLine := rm (b := 195) hu (by decide)
  refine wpAny_call ?_
  k_dflt cell_enter
  refine let_A ?_
  intro A1
  k_steps
  unfold Hold
  k_dflt (refine' rt_none w c rest led tt _ _ _ _ _ _ _ _ _ _ _ _ _ _ _ _ _ _ _ _ _ B F X N T rfl hpre r8 u8 ?_)
  intro tt' t' led' h' tk' F1 N1 I1
  k_steps
  all_goals exact hret _ _ _ _ _ (by k_asm) (by k_asm) (by k_asm)
theorem gt_c (w : World) (c : LexC) (rest led : List (Addr × Obj)) (p : Nat) (pb : List Nat) (ts tt : Tok) :
    MyCl w 705 16 led (LI w c rest led p (.str " " ts) (.str "" tt) pb ∧ c.x.length ≤ 10000 ∧ p ≤ c.x.length ∧ pb.length ≤ 1 ∧ pb ++ c.x.cps.toList.drop p ≠ [] ∧ ∀ d ∈ c.wc.cps.toList, isEnd d = false) [Value.ref c.lx]
      (fun h₀ L m s Q => ∀ (acc : Str) (p' : Nat) (stv : Value) (pb' : List Nat) (tt' t' : Tok) (led' : List (Addr × Obj)) (h' : Heap) (tk' : Nat), EndOk (pb ++ c.x.cps.toList.drop p) c.x acc p' stv pb' → Fr h₀ L h' m → News h₀ L h' led' → LI w c rest led' p' stv (.str "" tt') pb' → Q (.str acc t') { s with heap := h', toks := tk' }) := by
  dsimp only [MyCl]; k_fill; intros
  rename_i loose mean mg mb dp un gd cn cs a ccd cl outer A₀ base h₀ L m s Q E B0 F0 X0 N0 T0 kk hpre hdp hu hret
  have I := hpre.1
  have r0 : dp < recursionLimit := Nat.lt_of_le_of_lt (Nat.le_add_right _ _) hdp
  have r1 : dp + 1 < recursionLimit := rm (b := 1) hdp (by decide)
  have r8 : dp + 1 + 12 < recursionLimit := rm (b := 13) hdp (by decide)
  have u8 : un + 3 + 16 * 12 < cLine := rm (b := 195) hu (by decide)
  refine wpAny_call ?_
  k_dflt cell_enter
  refine let_A ?_
  intro A1
  k_steps
  unfold Hold
  k_dflt (refine' rt_c w c rest led p pb ts tt _ _ _ _ _ _ _ _ _ _ _ _ _ _ _ _ _ _ _ _ _ B F X N T rfl hpre r8 u8 ?_)
  intro acc p' stv pb' tt' t' led' h' tk' hE F1 N1 I1
  have hq : (acc.cps.toList == (Str.ofString "").cps.toList) = false := by
    obtain ⟨_, hne, _⟩ := hE
    exact beq_eq_false_iff_ne.mpr hne
  k_steps
  all_goals exact hret _ _ _ _ _ _ _ _ _ hE (by k_asm) (by k_asm) (by k_asm)
theorem wz_Gt : True := by
  k_with_none
  trivial
end Mine
theorem Mine.wend_Gt : True := by
  k_with_none
  trivial
namespace Mine
theorem units_under_kw (A : Around) (C : Addr) (vals : List Value) (kw : List (Str × Value)) : (A.under (.builtin "type.__call__" ⟨.ref C :: vals, kw⟩)).units = A.units + 1 := rfl
theorem ltNe {l : List (Addr × Obj)} {d : Addr} (h : ∀ p ∈ l, p.1 < d) : ∀ p ∈ l, p.1 ≠ d := fun p hp => Nat.ne_of_lt (h p hp)
theorem ltNe' {l : List (Addr × Obj)} {d : Nat} (h : AllLt d l) : ∀ p ∈ l, p.1 ≠ d := fun p hp => Nat.ne_of_lt (allLt_mem h p hp)
/-- what is cut already, before rest -/
def PreR (S0 : List Nat) (dn : List (List Nat)) (rest : List Nat) : Prop := ∀ ts, Runs rest ts → Runs S0 (dn ++ ts)
/-- where the lexer stands between two tokens -/
def LexAt (x : Str) (stv : Value) (pb : List Nat) (p : Nat) (rest : List Nat) : Prop :=
  (stv = .none ∧ pb = [] ∧ p = x.length ∧ rest = []) ∨ ∃ ts d, stv = .str (Str.ofString " ") ts ∧ pb = [d] ∧ rest = d :: x.cps.toList.drop p
theorem end_step {R0 S0 : List Nat} {x acc : Str} {p : Nat} {stv : Value} {pb : List Nat} {dn : List (List Nat)} (h : EndOk R0 x acc p stv pb) (hp : PreR S0 dn R0) :
    ∃ rest, LexAt x stv pb p rest ∧ p ≤ x.length ∧ PreR S0 (dn ++ [acc.cps.toList]) rest ∧ rest.length < R0.length ∧ 1 ≤ acc.length ∧ acc.length ≤ R0.length := by
  obtain ⟨h1, hne, h⟩ := h
  have hpos := accPos hne
  rcases h with ⟨rfl, rfl, h2, h3, b, h4⟩ | ⟨ts, d, b, rfl, rfl, h3, h4, h5⟩
  · have hl : R0.length = acc.length := by rw [← h3]; rfl
    refine ⟨[], .inl ⟨rfl, rfl, h2, rfl⟩, h1, fun ts ht => ?_, by rw [hl]; exact hpos, hpos, by first | lia | omega⟩
    rw [List.append_assoc]
    refine hp _ ?_
    rw [← h3]
    have := Runs.cons (r := []) hne h4 (fun d hd => by cases hd) ht
    simpa using this
  · have hl : R0.length = acc.length + (d :: x.cps.toList.drop p).length := by rw [h3, List.length_append]; rfl
    refine ⟨d :: x.cps.toList.drop p, .inr ⟨ts, d, rfl, rfl, rfl⟩, h1, fun ts ht => ?_, by first | lia | omega, hpos, by first | lia | omega⟩
    rw [List.append_assoc]
    refine hp _ ?_
    rw [h3]
    exact Runs.cons hne h4 (fun d' hd => by cases hd; exact h5) ht
theorem pre_start (S0 : List Nat) : PreR S0 [] S0 := fun ts h => h
theorem pre_end {S0 : List Nat} {dn : List (List Nat)} (h : PreR S0 dn []) : Runs S0 dn := by have := h [] .nil; simpa using this
def wcS : Str := Str.ofString "abcdfeghijklmnopqrstuvwxyzABCDEFGHIJKLMNOPQRSTUVWXYZ0123456789_" ++ Str.ofString "~-./*?="
theorem wc_ends : ∀ c ∈ wcS.cps.toList, isEnd c = false := by decide +kernel
/-- the lexer while it is made -/
def CD (lx dlx : Nat) (rest led : List (Addr × Obj)) (f : Str → Option Value) (b : Nat) : Prop :=
  ∃ es n, led = (dlx, dictOf es n) :: rest ∧ FnOk es f b ∧ (lx, inst 744 dlx) ∈ rest ∧ (∀ q ∈ rest, q.1 ≠ dlx)
section
variable {prog : Program} {w : World} {M : Model} {A : Around} {E : Value → Shared → Prop} {h : Heap} {gn : Array GenState} {dr : Drawn} {os : OsState} {X : Nat} {h₀ : Heap} {L : Addr} {m : Str → Option Value} {lx dlx : Nat} {rest led : List (Addr × Obj)} {f : Str → Option Value} {b : Nat}
theorem cd_cons {q : Addr × Obj} {G : Prop} (N : News h₀ L h (q :: led)) (D : CD lx dlx rest led f b) (hq : q.1 ≠ dlx) (H : ∀ led', News h₀ L h led' → CD lx dlx (q :: rest) led' f b → G) : G := by
  obtain ⟨es, n, rfl, G1, hl, ho⟩ := D
  refine H ((dlx, dictOf es n) :: q :: rest) (fun r hr => N r ?_) ⟨es, n, rfl, G1, .tail _ hl, fun r hr => ?_⟩
  · simp only [List.mem_cons] at hr ⊢
    rcases hr with h | h | h
    · exact .inr (.inl h)
    · exact .inl h
    · exact .inr (.inr h)
  · rcases List.mem_cons.mp hr with rfl | hr
    · exact hq
    · exact ho r hr
theorem cd_cons2 {q1 q2 : Addr × Obj} {G : Prop} (N : News h₀ L h (q1 :: q2 :: led)) (D : CD lx dlx rest led f b) (h1 : q1.1 ≠ dlx) (h2 : q2.1 ≠ dlx) (H : ∀ led', News h₀ L h led' → CD lx dlx (q1 :: q2 :: rest) led' f b → G) : G := by
  obtain ⟨es, n, rfl, G1, hl, ho⟩ := D
  refine H ((dlx, dictOf es n) :: q1 :: q2 :: rest) (fun r hr => N r ?_) ⟨es, n, rfl, G1, .tail _ (.tail _ hl), fun r hr => ?_⟩
  · simp only [List.mem_cons] at hr ⊢
    rcases hr with h | h | h | h
    · exact .inr (.inr (.inl h))
    · exact .inl h
    · exact .inr (.inl h)
    · exact .inr (.inr (.inr h))
  · rcases List.mem_cons.mp hr with rfl | hr
    · exact h1
    · rcases List.mem_cons.mp hr with rfl | hr
      · exact h2
      · exact ho r hr
theorem cd_start {news : List (Addr × Obj)} (N : News h₀ L h ((lx, instObj 744 dlx) :: (dlx, dictOf [] 0) :: news)) (h1 : lx ≠ dlx) (h2 : ∀ q ∈ news, q.1 ≠ dlx) : ∃ led, News h₀ L h led ∧ CD lx dlx ((lx, inst 744 dlx) :: news) led (fun _ => none) 0 := by
  refine ⟨(dlx, dictOf [] 0) :: (lx, inst 744 dlx) :: news, fun r hr => N r ?_, [], 0, rfl, ⟨fun _ => rfl, Nat.le_refl _⟩, .head _, fun r hr => ?_⟩
  · simp only [List.mem_cons] at hr ⊢
    rcases hr with h | h | h
    · exact .inr (.inl h)
    · exact .inl h
    · exact .inr (.inr h)
  · rcases List.mem_cons.mp hr with rfl | hr
    · exact h1
    · exact h2 r hr
theorem cd_set {name : Str} {v : Value} {Q : Unit → Shared → Prop} (F : Fr h₀ L h m) (X₀ : (MineH.KH w.params).In h₀) (N : News h₀ L h led) (D : CD lx dlx rest led f b) (hb : b < 1000) (ht : takerIn (MineH.KH w.params) 744 name = some none)
    (H : ∀ h' led' tc, Fr h₀ L h' m → News h₀ L h' led' → CD lx dlx rest led' (upd f name v) (b + 1) → Q () ⟨h', gn, dr, tc, os⟩) : wpAny (model prog w) A (setAttr (.ref lx) name v) Q E ⟨h, gn, dr, X, os⟩ := by
  obtain ⟨es, n, rfl, G1, hl, ho⟩ := D
  exact set_pp (pre := []) F X₀ N (.tail _ hl) (fun _ h => nomatch h) ho G1 hb ht fun h' hsh t n' tc F' N' => H h' _ _ F' N' ⟨_, n', rfl, G1.put name hsh t v, hl, ho⟩
theorem cd_get {name : Str} {v : Value} {ex : Bool} {Q : Value → Shared → Prop} (F : Fr h₀ L h m) (X₀ : (MineH.KH w.params).In h₀) (N : News h₀ L h led) (D : CD lx dlx rest led f b)
    (hg : plainGet (MineH.KH w.params) 744 name = true) (hn : findIn (MineH.KH w.params) (.ref 744) name = some none) (hv : f name = some v) (hh : handedIn v = true)
    (H : ∀ tc, Q v ⟨h, gn, dr, tc, os⟩) : wpAny (model prog w) A (getAttr (.ref lx) name ex) Q E ⟨h, gn, dr, X, os⟩ := by
  obtain ⟨es, n, rfl, G1, hl, ho⟩ := D
  exact get_own (s := ⟨h, gn, dr, X, os⟩) F X₀ ⟨(N _ (.tail _ hl)).1, rfl, rfl, (N (dlx, dictOf es n) (.head _)).1⟩ hg (k744 w).2.2 hn rfl (by rw [G1.1, hv]) hh (H _)
theorem cd_dq {Q : Value → Shared → Prop} (F : Fr h₀ L h m) (N : News h₀ L h led) (D : CD lx dlx rest led f b)
    (H : ∀ D1 h' led', Fr h₀ L h' m → News h₀ L h' led' → CD lx dlx ((D1, dqOf [] 0) :: rest) led' f b → (∀ p ∈ rest, p.1 < D1) → dlx < D1 → Q (.ref D1) ⟨h', gn, dr, X, os⟩) :
    wpAny (model prog w) A (call (.type "collections.deque") []) Q E ⟨h, gn, dr, X, os⟩ := by
  refine dq_call (s := ⟨h, gn, dr, X, os⟩) F N fun D1 h' F' N' l => ?_
  have D0 := D
  obtain ⟨es, n, rfl, G1, hl, ho⟩ := D
  have l1 := l _ (.head _)
  exact cd_cons N' D0 (Nat.ne_of_gt l1) fun led' N2 D2 => H D1 h' led' F' N2 D2 (fun p hp => l p (.tail _ hp)) l1
end
theorem LxF.of {c : LexC} {f : Str → Option Value} {st tk : Value} {e1 e2 e3 e4 e5 e6 e7 e8 t9 : Tok} {ln : Int} {t10 : Tok}
    (h1 : f "instream" = some (.ref c.sio)) (h2 : f "posix" = some (.bool false)) (h3 : f "whitespace_split" = some (.bool true)) (h4 : f "pushback" = some (.ref c.dq1)) (h5 : f "filestack" = some (.ref c.dq2)) (h6 : f "_pushback_chars" = some (.ref c.dq3)) (h7 : f "source" = some .none)
    (s1 : f "eof" = some (.str "" e1)) (s2 : f "commenters" = some (.str "" e2)) (s3 : f "wordchars" = some (.str c.wc e3)) (s4 : f "whitespace" = some (.str "" e4)) (s5 : f "quotes" = some (.str "" e5)) (s6 : f "escape" = some (.str "\\" e6)) (s7 : f "escapedquotes" = some (.str "\"" e7)) (s8 : f "_punctuation_chars" = some (.str "\r\n" e8))
    (d : f "debug" = some (.int 0 t9)) (n : f "lineno" = some (.int ln t10)) (s : f "state" = some st) (t : f "token" = some tk) (no1 : f "read_token" = none) (no2 : f "get_token" = none) : LxF c f st tk := by
  refine ⟨fun y v e => ?_, fun y x e => ?_, ⟨_, d⟩, ⟨_, _, n⟩, s, t, no1, no2⟩
  · unfold cstV at e
    iterate 7 (split at e; (injection e with e; subst_vars; assumption))
    cases e
  · unfold cstS at e
    iterate 8 (split at e; (injection e with e; subst_vars; exact ⟨_, by assumption⟩))
    cases e
section
variable {prog : Program} {w : World} {A : Around} {E : Value → Shared → Prop} {h : Heap} {gn : Array GenState} {dr : Drawn} {os : OsState} {X : Nat} {h₀ : Heap} {L : Addr} {m : Str → Option Value} {c : LexC} {r led : List (Addr × Obj)} {p : Nat} {st tk : Value} {pb : List Nat}
/-- a token appended to the list beside the lexer -/
theorem li_lapp {T : Nat} {its : Array Value} {k : Nat} {v : Value} {Q : Value → Shared → Prop} (F : Fr h₀ L h m) (N : News h₀ L h led) (I : LI w c ((T, listOf its k) :: r) led p st tk pb) (hT : ∀ q ∈ r, q.1 ≠ T) (hs : c.sio ≠ T) (hz : its.size ≤ sizeLine)
    (H : ∀ h' led', Fr h₀ L h' m → News h₀ L h' led' → LI w c ((T, listOf (its.push v) (k + 1)) :: r) led' p st tk pb → Q .none ⟨h', gn, dr, X, os⟩) : wpAny (model prog w) A (call (.builtin "list.append") [.ref T, v]) Q E ⟨h, gn, dr, X, os⟩ := by
  obtain ⟨es, n, f, t1, t2, t3, t4, t5, t6, tp, pn, rfl, G, K, P⟩ := I
  have ho := P.off (T, listOf its k) (.head _)
  have e := List.mem_cons.mp P.lx
  refine append_K (s := ⟨h, gn, dr, X, os⟩) F N (.tail (Ne.symm ho.1) (.tail hs (.tail (Ne.symm ho.2.1) (.tail (Ne.symm ho.2.2) (.head hT))))) (fun h' F' N' => H h' _ F' N' ⟨es, n, f, t1, t2, t3, t4, t5, t6, tp, pn, rfl, G, K, ?_, ?_, ?_, ?_, P.ne⟩) hz
  · rcases List.mem_cons.mp P.lx with q | q
    · exact absurd (congrArg (fun z => z.2.data) q) (fun e => nomatch e)
    · exact .tail _ q
  · obtain ⟨n1, q⟩ := P.q1
    rcases List.mem_cons.mp q with q | q
    · exact absurd (congrArg (fun z => z.2.data) q) (fun e => nomatch e)
    · exact ⟨n1, .tail _ q⟩
  · obtain ⟨n1, q⟩ := P.q2
    rcases List.mem_cons.mp q with q | q
    · exact absurd (congrArg (fun z => z.2.data) q) (fun e => nomatch e)
    · exact ⟨n1, .tail _ q⟩
  · intro q hq
    rcases List.mem_cons.mp hq with rfl | hq
    · exact ho
    · exact P.off q (.tail _ hq)
end
/-- the lexer is made: what is known of it from here on -/
theorem cd_go {G : Prop} {w : World} {h₀ h : Heap} {L : Addr} {T dlx lx dsio sio D1 D2 D3 : Nat} {oT : Obj} {x : Str} {t1 t2 t3 t4 t5 t6 : Tok} {f : Str → Option Value} {b : Nat} {st tk : Value} {led news : List (Addr × Obj)} (N : News h₀ L h ((T, oT) :: led))
    (D : CD lx dlx ((D3, dqOf [] 0) :: (D2, dqOf [] 0) :: (D1, dqOf [] 0) :: (dsio, sioD w t1 t2 t3 t4 t5 t6 x 0) :: (sio, inst 609 dsio) :: (lx, inst 744 dlx) :: news) led f b)
    (hT : ∀ p ∈ led, p.1 < T) (l3 : ∀ p ∈ (D2, dqOf [] 0) :: (D1, dqOf [] 0) :: (dsio, sioD w t1 t2 t3 t4 t5 t6 x 0) :: (sio, inst 609 dsio) :: (lx, inst 744 dlx) :: news, p.1 < D3)
    (l1 : ∀ p ∈ (dsio, sioD w t1 t2 t3 t4 t5 t6 x 0) :: (sio, inst 609 dsio) :: (lx, inst 744 dlx) :: news, p.1 < D1) (l2 : ∀ p ∈ (D1, dqOf [] 0) :: (dsio, sioD w t1 t2 t3 t4 t5 t6 x 0) :: (sio, inst 609 dsio) :: (lx, inst 744 dlx) :: news, p.1 < D2) (hds : dsio < sio) (hlx : dlx < lx) (hld : lx < dsio) (hn : ∀ p ∈ news, p.1 < dlx) (hb : b ≤ 900)
    (K : LxF ⟨dlx, lx, dsio, sio, D1, D2, D3, x, wcS⟩ f st tk)
    (go : ∀ (c : LexC) (led' r : List (Addr × Obj)), c.lx = lx → c.x = x → c.wc = wcS → c.sio ≠ T → (∀ q ∈ r, q.1 ≠ T) → (∀ q ∈ news, q ∈ r) → LI w c ((T, oT) :: r) led' (0 : Nat) st tk [] → News h₀ L h led' → G) : G := by
  obtain ⟨es, n, rfl, G1, hl, ho⟩ := D
  have a3 : D3 < T := hT _ (.tail _ (.head _))
  have a4 : D2 < D3 := l3 _ (.head _)
  have a6 : D1 < D2 := l2 _ (.head _)
  have a5 : sio < D1 := l1 _ (.tail _ (.head _))
  have hnn : ∀ q ∈ news, q.1 < dlx := hn
  refine go ⟨dlx, lx, dsio, sio, D1, D2, D3, x, wcS⟩ ((dsio, sioD w t1 t2 t3 t4 t5 t6 x 0) :: (sio, inst 609 dsio) :: (D3, dqOf [] 0) :: (dlx, dictOf es n) :: (T, oT) :: (lx, inst 744 dlx) :: (D1, dqOf [] 0) :: (D2, dqOf [] 0) :: news) ((lx, inst 744 dlx) :: (D1, dqOf [] 0) :: (D2, dqOf [] 0) :: news) rfl rfl rfl
    (Nat.ne_of_lt (by show sio < T; first | lia | omega)) ?_ (fun q hq => .tail _ (.tail _ (.tail _ hq))) ⟨es, n, f, t1, t2, t3, t4, t5, t6, 0, 0, rfl, ⟨G1.1, Nat.le_trans G1.2 hb⟩, K, .tail _ (.head _), ⟨0, .tail _ (.tail _ (.head _))⟩, ⟨0, .tail _ (.tail _ (.tail _ (.head _)))⟩, ?_, ?_⟩ ?_
  · intro q hq
    simp only [List.mem_cons] at hq
    rcases hq with rfl | rfl | rfl | hq
    · exact Nat.ne_of_lt (by show lx < T; first | lia | omega)
    · exact Nat.ne_of_lt (by show D1 < T; first | lia | omega)
    · exact Nat.ne_of_lt (by show D2 < T; first | lia | omega)
    · exact Nat.ne_of_lt (Nat.lt_trans (hn q hq) (by first | lia | omega))
  · have key : ∀ k : Nat, (k < dlx ∨ k = T ∨ k = lx ∨ k = D1 ∨ k = D2) → k ≠ dsio ∧ k ≠ D3 ∧ k ≠ dlx := by intro k hk; first | lia | omega
    intro q hq
    refine key q.1 ?_
    simp only [List.mem_cons] at hq
    rcases hq with rfl | rfl | rfl | rfl | hq
    · exact .inr (.inl rfl)
    · exact .inr (.inr (.inl rfl))
    · exact .inr (.inr (.inr (.inl rfl)))
    · exact .inr (.inr (.inr (.inr rfl)))
    · exact .inl (hn q hq)
  · show sio ≠ dsio ∧ D3 ≠ dsio ∧ dlx ≠ dsio ∧ dsio ≠ D3 ∧ sio ≠ D3 ∧ dlx ≠ D3 ∧ dsio ≠ dlx ∧ sio ≠ dlx ∧ D3 ≠ dlx
    first | lia | omega
  · intro q hq
    refine N q ?_
    simp only [List.mem_cons] at hq ⊢
    rcases hq with h | h | h | h | h | h | h | h | h
    · exact .inr (.inr (.inr (.inr (.inr (.inl h)))))
    · exact .inr (.inr (.inr (.inr (.inr (.inr (.inl h))))))
    · exact .inr (.inr (.inl h))
    · exact .inr (.inl h)
    · exact .inl h
    · exact .inr (.inr (.inr (.inr (.inr (.inr (.inr (.inl h)))))))
    · exact .inr (.inr (.inr (.inr (.inl h))))
    · exact .inr (.inr (.inr (.inl h)))
    · exact .inr (.inr (.inr (.inr (.inr (.inr (.inr (.inr h)))))))
/-- what is left of it at the end -/
theorem li_out {w : World} {c : LexC} {h₀ h : Heap} {L : Addr} {T : Nat} {oT : Obj} {r led news : List (Addr × Obj)} {p : Nat} {st tk : Value} {pb : List Nat} (N : News h₀ L h led) (I : LI w c ((T, oT) :: r) led p st tk pb) (hn : ∀ q ∈ news, q ∈ r) : News h₀ L h ((T, oT) :: news) := by
  obtain ⟨es, n, f, t1, t2, t3, t4, t5, t6, tp, pn, rfl, G, K, P⟩ := I
  intro q hq
  refine N q (.tail _ (.tail _ (.tail _ (.tail _ ?_))))
  rcases List.mem_cons.mp hq with rfl | hq
  · exact .head _
  · exact .tail _ (hn q hq)
theorem li_mem {w : World} {c : LexC} {q : Addr × Obj} {r led : List (Addr × Obj)} {p : Nat} {st tk : Value} {pb : List Nat} (I : LI w c (q :: r) led p st tk pb) : q ∈ led := by
  obtain ⟨es, n, f, t1, t2, t3, t4, t5, t6, tp, pn, rfl, -⟩ := I
  exact .tail _ (.tail _ (.tail _ (.tail _ (.head _))))
/-- between the turns of the loop over the tokens -/
def TokJ (w : World) (c : LexC) (T : Nat) (r : List (Addr × Obj)) (n : Nat) (m' : Str → Option Value) (news' : List (Addr × Obj)) : Prop :=
  ∃ (dn : List (List Nat)) (tvs : List Value) (nt : Nat) (tok : Str) (tt0 : Tok) (stv : Value) (pb : List Nat) (p : Nat) (rest : List Nat) (tt : Tok), Are IsS tvs dn ∧ LexAt c.x stv pb p rest ∧ p ≤ c.x.length ∧ dn.length + n ≤ 10001 ∧
      ((1 ≤ tok.length ∧ tok.length ≤ 10001 ∧ PreR c.x.cps.toList (dn ++ [tok.cps.toList]) rest ∧ n = rest.length + 1) ∨ (tok = "" ∧ PreR c.x.cps.toList dn [])) ∧
      m' "lexer" = some (.ref c.lx) ∧ m' "tokens" = some (.ref T) ∧ m' "token" = some (.str tok tt0) ∧ LI w c ((T, listOf tvs.toArray nt) :: r) news' p stv (.str "" tt) pb
end Mine
namespace Mine
theorem tokens_c (w : World) (news : List (Addr × Obj)) (x : Str) (t : Tok) : MyCl w 769 24 news (1 ≤ x.length ∧ x.length ≤ 10000) [Value.str x t]
    (fun h₀ L m s Q => ∀ (D : Nat) (ys : List Value) (toks : List (List Nat)) (k : Nat) (h' : Heap) (tk' : Nat), Are IsS ys toks → Runs x.cps.toList toks → Fr h₀ L h' m → News h₀ L h' ((D, listOf ys.toArray k) :: news) → Q (.ref D) { s with heap := h', toks := tk' }) := by
  k_with_none
  (k_with "k_room" => first | assumption | ktr_room)
  (k_with "k_mem" => assumption)
  (k_with "eval Constant str" => (k_here; refine const_str ?_; intro t tk))
  (k_with "eval Constant int" => (k_here; refine const_int ?_; intro t tk))
  (k_with "execs cons" => (k_here; k_fold))
  (k_with "execs cons" => (k_here; refine gen_tk ?_; intro tk))
  (k_with "k_all" => first | assumption | exact ltNe (by assumption) | exact ltNe' (by assumption))
  (k_with "getMethod ref" => (k_here; (with_reducible show wpAny _ _ (getMethod (Value.ref _) (PySem.Str.ofString "get_token") _) _ _ _); refine' li_gettM ?F ?X ?N ?I ?_; (case F => k_asm); (case X => k_asm); (case I => k_asm); (case N => first | k_asm | exact newsTl (by k_asm))))
  (k_with "exec While" => (k_here; refine hold_of ?_))
  (k_with "truthy str" => (k_here; refine' truthy_pos' ?a ?b ?_; (case a => with_reducible assumption); (case b => with_reducible assumption); intro tq))
  (k_with "truthy str" => (k_here; (with_reducible show wpAny _ _ (truthy (Value.str (ch1 _) _)) _ _ _); refine truthy_ch ?_; intro tq))
  (k_with "call ref" => (k_here; (with_reducible show wpAny _ _ (PySem.call (Value.ref 609) [Value.str _ _]) _ _ _); refine hold_of ?_))
  (k_with "setAttr ref" => (k_here; k_dflt (refine' cd_set ?F ?X ?N ?I ?b ?t ?_; (case F => k_asm); (case X => k_asm); (case I => k_asm); (case N => first | k_asm | exact newsTl (by k_asm) | exact newsTl (newsTl (by k_asm)) | exact newsTl (newsTl (newsTl (by k_asm)))); (case b => decide); (case t => k_is)); (try clear N7); (try clear F7); (try clear D7); intro h7 led7 tc F7 N7 D7))
  (k_with "getAttr ref" => (k_here; k_dflt (refine' cd_get ?F ?X ?N ?I ?g ?n ?v ?h ?_; (case F => k_asm); (case X => k_asm); (case I => k_asm); (case N => first | k_asm | exact newsTl (by k_asm) | exact newsTl (newsTl (by k_asm)) | exact newsTl (newsTl (newsTl (by k_asm)))); (case g => k_is); (case n => k_is); (case v => exact rfl); (case h => k_handed)); intro tc))
  (k_with "call type:collections.deque" => (k_here; k_dflt (refine' cd_dq ?F ?N ?I ?_; (case F => k_asm); (case I => k_asm); (case N => first | k_asm | exact newsTl (by k_asm) | exact newsTl (newsTl (by k_asm)) | exact newsTl (newsTl (newsTl (by k_asm))))); (try clear N7); (try clear F7); (try clear D7); intro D1 h7 led7 F7 N7 D7 lt7 ld7))
  (k_with "getMethod str" => (k_here; (with_reducible show wpAny _ _ (getMethod (Value.str _ _) (PySem.Str.ofString "maketrans") _) _ _ _); refine getm_mt ?_; intro tq))
  (k_with "getMethod str" => (k_here; (with_reducible show wpAny _ _ (getMethod (Value.str _ _) (PySem.Str.ofString "translate") _) _ _ _); refine getm_tl ?_))
  (k_with "getMethod type:dict" => (k_here; k_dflt (refine' fk_getm ?kfbF ?kfbN ?kfbX ?kfbE ?_; (case kfbF => k_asm); (case kfbN => k_asm); (case kfbX => k_asm); (case kfbE => k_is); k_whole; intro x' h' F' N' l1)))
  (k_with "callWith ref" => (k_here; (with_reducible show wpAny _ _ (callWith _ (Value.ref _) _ (backTo _ (starEach (_ :: _) _)) []) _ _ _); k_dflt (refine' fk_callWith ?kfbN ?kfbM ?_; (case kfbN => k_asm); (case kfbM => k_mem); k_whole)))
  (k_with "And" => ((with_reducible show StandsFk _ _ ∧ _); k_dflt (refine ⟨fk_at (by k_asm) (by k_mem), ?_⟩); (try dsimp only [List.nil_append, List.cons_append])))
  (k_with "call ref" => (k_here; (with_reducible show wpAny _ _ (PySem.call (Value.ref _) [Value.str _ _]) _ _ _); (k_dflt (refine' fk_call ?hh ?F ?N ?X ?hb ?hm ?_; (case hh => exact rfl); (case F => k_asm); (case N => k_asm); (case X => k_asm); (case hb => k_is); (case hm => k_mem); intro d9 o9 h9 tk9 hO9 hb9 F9 N9 l9))))
  (k_with "call builtin:str.maketrans" => (k_here; (k_dflt (refine' mt_call ?F ?N ?hm ?ho ?hb ?_; (case F => k_asm); (case N => k_asm); (case hm => k_mem); (case ho => assumption); (case hb => assumption); intro d9 o9 h9 tk9 hO9 hb9 F9 N9 l9))))
  (k_with "call builtin:str.translate" => (k_here; (k_dflt (refine' tl_call ?hh ?F ?N ?hm ?ho ?hb ?hf ?hl ?hl0 ?ha ?_; (case hh => exact rfl); (case F => k_asm); (case N => k_asm); (case hm => k_mem); (case ho => assumption); (case hb => assumption); (case hf => decide +kernel); (case hl => decide +kernel); (case hl0 => decide +kernel); (case ha => decide +kernel); intro t9 h9 tk9 F9 N9))))
  (k_with "call builtin:list.append" => (k_here; (k_dflt (refine' li_lapp ?F ?N ?I ?t ?s ?z ?_; (case F => k_asm); (case I => k_asm); (case N => k_asm); (case t => k_asm); (case s => k_asm); (case z => k_asm))); intro h7 led7 F7 N7 I7))
  (k_with "call ref" => (k_here; (with_reducible show wpAny _ _ (PySem.call (Value.ref 705) _) _ _ _); refine hold_of ?_))
  (k_with "execs cons" => (k_here; (with_reducible show wpAny _ _ (execs (Stmt.If _ _ _ _ :: Stmt.If _ _ _ _ :: _) _) _ _ _); refine hold_of ?_))
  dsimp only [MyCl]; k_fill; intros
  rename_i loose mean mg mb dp un gd cn cs aa ccd cl outer A₀ base h₀ L m s Q E B0 F0 X0 N0 T0 kk hpre hdp hu hret
  obtain ⟨hx1, hx⟩ := hpre
  have r0 : dp < recursionLimit := Nat.lt_of_le_of_lt (Nat.le_add_right _ _) hdp
  have r1 : dp + 1 < recursionLimit := rm hdp (by decide)
  have r2 : dp + 1 + 1 < recursionLimit := rm (b := 2) hdp (by decide)
  have r3 : dp + 1 + 1 + 1 + 16 < recursionLimit := rm (b := 19) hdp (by decide)
  have r4 : dp + 1 + 16 < recursionLimit := rm (b := 17) hdp (by decide)
  have u3 : un + 3 + 1 + 3 + 16 * 16 < cLine := rm (b := 263) hu (by decide)
  have u4 : un + 3 + 16 * 16 < cLine := rm (b := 259) hu (by decide)
  refine wpAny_call ?_
  k_dflt cell_enter
  rename_i g L' hh FG F N B X T
  refine let_A ?_
  intro A1
  k_steps
  unfold Hold
  rename_i lxa da h1 F1 N1 la1 la2 g2 L2 h2 FG2 F2 N2 B2 X2 T2
  refine let_A ?_
  intro A2
  obtain ⟨u2, F3⟩ : ∃ u, Fr g2 L2 h2 (kstB u [("self", .ref lxa), ("instream", .str x _), ("infile", .none), ("posix", .bool false), ("punctuation_chars", .str "\r\n" _)]) := ⟨_, fr_kst F2 (by simp only [List.forall_mem_cons]; exact ⟨rfl, rfl, rfl, rfl, rfl, fun _ h => nomatch h⟩)⟩
  obtain ⟨led, N3, D3⟩ := cd_start N2 (Nat.ne_of_gt la2) (fun q hq => Nat.ne_of_lt (la1 q hq))
  clear F1 N1 F2 N2
  refine wpAny_execs_cons ?_
  k_steps
  unfold Hold
  k_dflt (refine' sio_c w led x _ _ _ _ _ _ _ _ _ _ _ _ _ _ _ _ _ _ _ _ _ _ B2 (by k_asm) X2 (by k_asm) T2 rfl hx r3 u3 ?_)
  intro sio dsio t1 t2 t3 t4 t5 t6 h9 tk9 F9 N9 hlo hlt
  have D4 := D3
  obtain ⟨_, _, rfl, -, -, -⟩ := D4
  have hd1 := hlo _ (.head _)
  have hd2 := hlo _ (.tail _ (.head _))
  refine cd_cons2 N9 D3 (Nat.ne_of_gt hd1) (Nat.ne_of_gt (Nat.lt_trans hd1 hlt)) fun led4 N4 D4 => ?_
  clear N9 D3 hlo
  k_steps
  obtain ⟨u3, F5⟩ : ∃ u, Fr g L' _ (kstB u [("lexer", .ref lxa)]) := ⟨_, fr_kst (by k_asm) (fun p hp => by rcases List.mem_singleton.mp hp with rfl; rfl)⟩
  refine cd_go (news := news) (by k_asm) (by k_asm) (by k_asm) (by k_asm) (by k_asm) (by k_asm) hlt la2 hd2 la1 (Nat.le_of_ble_eq_true rfl) (LxF.of rfl rfl rfl rfl rfl rfl rfl rfl rfl rfl rfl rfl rfl rfl rfl rfl rfl rfl rfl rfl rfl) ?_
  intro c led5 r e1 e2 e3 hsT hrT hnr I5 N5
  subst e1 e2
  have hne : ([] : List Nat) ++ c.x.cps.toList.drop 0 ≠ [] := by
    have : 0 < c.x.cps.toList.length := hx1
    simpa using List.ne_nil_of_length_pos this
  k_steps
  unfold Hold
  k_dflt (refine' gt_c w c _ led5 0 [] _ _ _ _ _ _ _ _ _ _ _ _ _ _ _ _ _ _ _ _ _ _ _ B F5 X N5 T rfl ⟨I5, hx, Nat.zero_le _, Nat.zero_le _, hne, by rw [e3]; exact wc_ends⟩ r4 u4 ?_)
  intro acc p' stv pb' tt' t' led' h' tk' hE F6 N6 I6
  obtain ⟨rest, hL, hp', hPre, hlt, hac1, hac2⟩ := end_step (S0 := c.x.cps.toList) (dn := []) hE (by rw [List.drop_zero, List.nil_append]; exact pre_start _)
  have hR : ([] ++ c.x.cps.toList.drop 0 : List Nat).length = c.x.length := by rw [List.drop_zero, List.nil_append]; rfl
  rw [hR] at hlt hac2
  have hac3 : acc.length ≤ 10001 := Nat.le_trans hac2 (Nat.le_succ_of_le hx)
  clear N5 F5 I5 hE hne hR
  k_steps
  unfold Hold
  refine While_inv2 (TokJ w c _ r) (by k_asm) (by first | k_asm | exact newsTl (by k_asm)) (n₀ := rest.length + 1)
    ⟨[], [], 0, acc, t', stv, pb', p', rest, tt', .nil, hL, hp', by show 0 + (rest.length + 1) ≤ 10001; omega, .inl ⟨hac1, hac3, hPre, rfl⟩, rfl, rfl, rfl, I6⟩ ?turn (by with_unfolding_all passes_own)
  case turn =>
    rintro n m' news' h₁ tk₁ F₁ N₁ ⟨dn, tvs, nt, tok, tt0, stv1, pb1, p1, rest1, tt1, hA, hL1, hp1, hn1, hT, q1, q2, q3, I1⟩
    have F₂ := fr_kst F₁ (ps := [("lexer", .ref c.lx), ("tokens", .ref _), ("token", .str tok tt0)]) (by simp only [List.forall_mem_cons]; exact ⟨q1, q2, q3, fun _ h => nomatch h⟩)
    clear F₁ I6 hL hPre
    rcases hT with ⟨ht1, ht2, hP, hn2⟩ | ⟨rfl, hP⟩
    · have hlen := hA.length
      have hmT := li_mem I1
      have hz : tvs.toArray.size ≤ sizeLine := by rw [sizeLine_eq]; simp only [List.size_toArray]; omega
      k_steps
      unfold Hold
      rename_i I7
      have hS : IsS tok.cps.toList (.str tok tt0) := ⟨tt0, rfl⟩
      have hA2 := hA.snoc hS
      have hdl : (dn ++ [tok.cps.toList]).length = dn.length + 1 := by simp
      rw [List.push_toArray] at I7
      rcases hL1 with ⟨rfl, rfl, rfl, rfl⟩ | ⟨ts1, d1, rfl, rfl, rfl⟩
      · k_dflt (refine' gt_none w c _ _ tt1 _ _ _ _ _ _ _ _ _ _ _ _ _ _ _ _ _ _ _ _ _ B (by k_asm) X (by k_asm) T rfl ⟨I7, hx⟩ r4 u4 ?_)
        intro tt2 t2' led2 h2 tk2 F3 N3 I3
        k_steps
        all_goals exact ⟨_, _, _, _, 0, rfl, by k_asm, by k_asm, by omega, dn ++ [tok.cps.toList], tvs ++ [.str tok tt0], _, "", _, .none, [], c.x.length, [], _, hA2, .inl ⟨rfl, rfl, rfl, rfl⟩, Nat.le_refl _, by omega, .inr ⟨rfl, hP⟩, rfl, rfl, rfl, I3⟩
      · k_dflt (refine' gt_c w c _ _ p1 [d1] ts1 tt1 _ _ _ _ _ _ _ _ _ _ _ _ _ _ _ _ _ _ _ _ _ B (by k_asm) X (by k_asm) T rfl ⟨I7, hx, hp1, Nat.le_refl _, by simp, by rw [e3]; exact wc_ends⟩ r4 u4 ?_)
        intro acc2 p2 stv2 pb2 tt2 t2' led2 h2 tk2 hE2 F3 N3 I3
        obtain ⟨rest2, hL2, hp2, hPre2, hlt2, hac21, hac22⟩ := end_step (S0 := c.x.cps.toList) (dn := dn ++ [tok.cps.toList]) hE2 hP
        have hR3 : (d1 :: c.x.cps.toList.drop p1).length ≤ 10001 := by
          have : (c.x.cps.toList.drop p1).length ≤ c.x.cps.toList.length := by rw [List.length_drop]; exact Nat.sub_le _ _
          exact Nat.succ_le_succ (Nat.le_trans this hx)
        have hlt3 : rest2.length < (d1 :: c.x.cps.toList.drop p1).length := hlt2
        have hac4 : acc2.length ≤ 10001 := Nat.le_trans hac22 hR3
        k_steps
        all_goals exact ⟨_, _, _, _, rest2.length + 1, rfl, by k_asm, by k_asm, by omega, dn ++ [tok.cps.toList], tvs ++ [.str tok tt0], _, acc2, _, stv2, pb2, p2, rest2, _, hA2, hL2, hp2, by omega, .inl ⟨hac21, hac4, hPre2, rfl⟩, rfl, rfl, rfl, I3⟩
    · k_steps
      exact hret _ tvs dn nt _ _ hA (pre_end hP) (by k_asm) (li_out (by k_asm) I1 hnr)
end Mine
theorem Mine.wend_Ct : True := by
  k_with_none
  trivial
namespace Mine
open PyProof.Rows.LCg
theorem fmodP (k : Int) : ∃ a : Nat, k.fmod (10 ^ 6) = (a : Int) ∧ a < 1000000 := by
  have h1 := Int.fmod_nonneg_of_pos k (by decide : (0 : Int) < 10 ^ 6)
  have h2 := Int.fmod_lt_of_pos k (by decide : (0 : Int) < 10 ^ 6)
  exact ⟨(k.fmod (10 ^ 6)).toNat, by first | lia | omega, by first | lia | omega⟩
theorem cells3 : ∀ ns : List Int, ∃ a b c : Nat, List.take 3 (List.map (fun k' => Int.fmod k' (10 ^ 6)) (List.take 3 ns) ++ [1, 2, 6]) = [(a : Int), b, c] ∧ a < 1000000 ∧ b < 1000000 ∧ c < 1000000
  | [] => ⟨1, 2, 6, rfl, by decide, by decide, by decide⟩
  | [x] => by
    obtain ⟨a, ha, h⟩ := fmodP x
    exact ⟨a, 1, 2, by show [x.fmod (10 ^ 6), 1, 2] = _; rw [ha]; rfl, h, by decide, by decide⟩
  | [x, y] => by
    obtain ⟨a, ha, h⟩ := fmodP x
    obtain ⟨b, hb, h'⟩ := fmodP y
    exact ⟨a, b, 1, by show [x.fmod (10 ^ 6), y.fmod (10 ^ 6), 1] = _; rw [ha, hb]; rfl, h, h', by decide⟩
  | x :: y :: z :: r => by
    obtain ⟨a, ha, h⟩ := fmodP x
    obtain ⟨b, hb, h'⟩ := fmodP y
    obtain ⟨c, hc, h''⟩ := fmodP z
    exact ⟨a, b, c, by show [x.fmod (10 ^ 6), y.fmod (10 ^ 6), z.fmod (10 ^ 6)] = _; rw [ha, hb, hc], h, h', h''⟩
theorem ints3 {vs : List Value} {a b c : Int} (h : IntsAre vs [a, b, c]) : ∃ ta tb tc, vs = [.int a ta, .int b tb, .int c tc] := by
  cases h with | cons _ ta h => cases h with | cons _ tb h => cases h with | cons _ tc h => cases h; exact ⟨ta, tb, tc, rfl⟩
section
theorem w1_La : True := by
  k_with_none
  (k_with "k_room" => first | exact Nat.le_of_ble_eq_true rfl | exact rm (b := 1) hdp (by decide) | exact rm (b := 2) hdp (by decide) | exact rm (b := 3) hdp (by decide) | exact rm (b := 4) hdp (by decide) | exact rm (b := 5) hdp (by decide) | exact rm (b := 6) hdp (by decide) | exact rm (b := 7) hdp (by decide) | exact rm (b := 8) hdp (by decide) | exact rm (b := 9) hdp (by decide) | exact rm (b := 10) hdp (by decide) | exact rm (b := 11) hdp (by decide) | exact rm (b := 12) hdp (by decide) | exact rm (b := 13) hdp (by decide) | exact rm (b := 14) hdp (by decide) | exact rm (b := 15) hdp (by decide) | exact rm (b := 16) hdp (by decide) | exact rm (b := 17) hdp (by decide) | exact rm (b := 18) hdp (by decide) | exact rm (b := 19) hdp (by decide) | exact rm (b := 20) hdp (by decide) | exact rm (b := 21) hdp (by decide) | exact rm (b := 22) hdp (by decide) | exact rm (b := 23) hdp (by decide) | exact rm (b := 24) hdp (by decide) | exact rm (b := 25) hdp (by decide) | exact rm (b := 1) hu (by decide) | exact rm (b := 3) hu (by decide) | exact rm (b := 4) hu (by decide) | exact rm (b := 7) hu (by decide) | exact rm (b := 19) hu (by decide) | exact rm (b := 23) hu (by decide) | exact rm (b := 35) hu (by decide) | exact rm (b := 39) hu (by decide) | exact rm (b := 51) hu (by decide) | exact rm (b := 55) hu (by decide) | exact rm (b := 64) hu (by decide) | exact rm (b := 67) hu (by decide) | exact rm (b := 71) hu (by decide) | exact rm (b := 83) hu (by decide) | exact rm (b := 87) hu (by decide) | exact rm (b := 99) hu (by decide) | exact rm (b := 103) hu (by decide) | exact rm (b := 115) hu (by decide) | exact rm (b := 119) hu (by decide) | exact rm (b := 131) hu (by decide) | exact rm (b := 135) hu (by decide) | exact rm (b := 147) hu (by decide) | exact rm (b := 151) hu (by decide) | exact rm (b := 163) hu (by decide) | exact rm (b := 167) hu (by decide) | exact rm (b := 179) hu (by decide) | exact rm (b := 183) hu (by decide) | exact rm (b := 195) hu (by decide) | exact rm (b := 199) hu (by decide) | exact rm (b := 211) hu (by decide) | exact rm (b := 215) hu (by decide) | exact rm (b := 227) hu (by decide) | exact rm (b := 231) hu (by decide) | exact rm (b := 243) hu (by decide) | exact rm (b := 247) hu (by decide) | exact rm (b := 259) hu (by decide) | exact rm (b := 263) hu (by decide) | exact rm (b := 275) hu (by decide) | exact rm (b := 279) hu (by decide) | exact rm (b := 291) hu (by decide) | exact rm (b := 295) hu (by decide) | exact rm (b := 307) hu (by decide) | exact rm (b := 311) hu (by decide) | exact rm (b := 323) hu (by decide) | exact rm (b := 327) hu (by decide) | exact rm (b := 339) hu (by decide) | exact rm (b := 343) hu (by decide) | exact rm (b := 355) hu (by decide) | exact rm (b := 371) hu (by decide) | exact rm (b := 387) hu (by decide) | ktr_room | ktr_units)
  (k_with "execs cons" => (k_here; k_fold))
  (k_with "execs cons" => (k_here; refine gen_tk ?_; intro tk8))
  (k_with "eval Constant str" => (k_here; refine const_str ?_; intro t8 tk8))
  (k_with "eval Constant int" => (k_here; refine const_int ?_; intro t8 tk8))
  (k_with "call ref" => (k_here; refine hold_of ?_))
  (k_with "execs cons" => (k_here; (with_reducible show wpAny _ _ (execs (Stmt.Assign [Expr.Name (PySem.Str.ofString "told") _] _ _ :: _) _) _ _ _); refine hold_of ?_))
  trivial
theorem law_a (w : World) {oc : Value} {od : Option Addr} {osl : Array (Option Value)} {name qual : Str} {params : Arguments} {body : List Stmt} {scope : Scope} {dV kV doc pm cdv ct : Value} {an : Option Addr}
    (hK : (MineH.KH w.params).lookup 805 = some ⟨oc, od, .func (fnOf name qual params body scope dV kV doc pm an cdv ct), osl⟩)
    {loose : List Str} {mean : ExcName → Option Value} {mg mb : Str → Option Value} {g : Heap} {L fa l : Addr} {cdw : Value} {s : Shared} {cells : List (Addr × Obj)} {vs : List Value} {ns : List Int} {Q : Flow → Shared → Prop} {E : Value → Shared → Prop}
    (B : Below callerA g [] g) (F : Fr g L s.heap (bindL (envOfC qual scope L fa cdw).kindOf [(Str.ofString "script", .ref l)] fun _ => none)) (N : News g L s.heap cells)
    (Y : CellsAre (bindC (envOfC qual scope L fa cdw).kindOf [(Str.ofString "script", .ref l)] fun _ => none) (cellsFrom (L + 1) scope.names []) cells)
    (X : (MineH.KH w.params).In g) (T : Top MineH.vw loose mean mg mb g) (hl : g.IsList l vs.toArray) (hi : IntsAre vs ns) (h63 : ns.length ≤ 63)
    (hrest : ∀ (a b c : Nat) (m : Str → Option Value) (h' : Heap) (tk' : Nat) (oP oS : Obj) (tt ts : Tok) (Tk : Nat) (tvs : List Value) (nt : Nat) (toks : List (List Nat)), oP.data = .cell none → oS.data = .cell (some (.str (S (qd (textF [a, b, c]))) ts)) →
      Are IsS tvs toks → Runs (qd (textF [a, b, c])) toks → m (Str.ofString "text") = some (.str (S (textF [a, b, c])) tt) → m (Str.ofString "tokens") = some (.ref Tk) → Fr g L h' m → News g L h' [(Tk, listOf tvs.toArray nt), (L + 1 + 1, oP), (L + 1, oS)] →
        wpAny (model PySem.Challenge.rw_oc0215_01.row.prog w) (callerA.deeper (envOfC qual scope L fa cdw)) (execs (body.drop 4) (envOfC qual scope L fa cdw)) Q E { s with heap := h', toks := tk' }) :
    wpAny (model PySem.Challenge.rw_oc0215_01.row.prog w) (callerA.deeper (envOfC qual scope L fa cdw)) (execs body (envOfC qual scope L fa cdw)) Q E s := by
  revert B F N Y X T hrest
  k_fill
  have e := hK.symm.trans (by with_unfolding_all rfl)
  cases e
  clear hK
  intro B F N Y X T hrest
  obtain ⟨oP, oS, rfl, d1, d2⟩ := CellsAre.two Y
  clear Y
  replace d1 : oP.data = .cell none := d1.trans rfl
  replace d2 : oS.data = .cell none := d2.trans rfl
  k_steps
  unfold Hold
  rename_i Dc ws _ hI _ _ lD h1 F1 N1
  obtain ⟨a, b, c, e3, ha, hb, hc⟩ := cells3 ns
  have hI2 := hI
  rw [e3] at hI2
  obtain ⟨ta, tb, tc, rfl⟩ := ints3 hI2
  have N2 := cb_drop (news := [(Dc, listOf (List.toArray [Value.int a ta, .int b tb, .int c tc]) 0), (L + 1 + 1, oP), (L + 1, oS)]) N1 (by kcj_all)
  obtain ⟨m, F2, q⟩ : ∃ m, Fr g L h1 m ∧ m (Str.ofString "cells") = some (.ref Dc) := ⟨_, F1, rfl⟩
  clear F1 N1 hI hI2 e3 hi hl
  k_dflt (refine' text_c w [(L + 1 + 1, oP), (L + 1, oS)] Dc a b c ta tb tc 0 _ _ _ _ _ _ _ _ _ _ _ _ _ _ _ _ _ _ _ _ _ B F2 X N2 T rfl ⟨ha, hb, hc⟩ ?kd ?ku ?_)
  case kd => k_room
  case ku => k_room
  intro tt h2 tk2 F3 N3
  clear F2 N2
  have hTl : (S (textF [a, b, c])).length ≤ 13 := text_len [a, b, c]
  k_steps
  unfold Hold
  k_dflt (refine' quotedata_c w [(Dc, listOf (List.toArray [Value.int a ta, .int b tb, .int c tc]) 0), (L + 1 + 1, oP), (L + 1, oS)] (S (textF [a, b, c])) tt _ _ _ _ _ _ _ _ _ _ _ _ _ _ _ _ _ _ _ _ _ B (by k_asm) X (by k_asm) T rfl (by first | lia | omega) ?kd ?ku ?_)
  case kd => k_room
  case ku => k_room
  intro ts h3 tk3 F4 N4
  have hq1 : 1 ≤ (S (qd (textF [a, b, c]))).length := List.length_pos_iff.mpr (qd_ne (textF_ne a [b, c]))
  have hq2 : (S (qd (textF [a, b, c]))).length ≤ 52 := Nat.le_trans (qd_len (textF [a, b, c])) (Nat.mul_le_mul_left 4 hTl)
  k_steps
  unfold Hold
  rename_i oS2 F5 N5 d5
  k_dflt (refine' tokens_c w [(L + 1 + 1, oP), (L + 1, oS2)] (S (qd (textF [a, b, c]))) ts _ _ _ _ _ _ _ _ _ _ _ _ _ _ _ _ _ _ _ _ _ B F5 X (cb_drop N5 (by kcj_all)) T rfl ⟨hq1, by first | lia | omega⟩ ?kd ?ku ?_)
  case kd => k_room
  case ku => k_room
  intro Tk tvs toks nt h6 tk6 hA hR F6 N6
  have hTk := (N6 (Tk, _) (.head _)).2
  k_steps
  unfold Hold
  exact hrest a b c _ _ _ oP oS2 tt ts Tk tvs nt toks d1 d5 hA hR rfl rfl (by k_asm) (by k_asm)
end
theorem w2_La : True := by
  k_with_none
  trivial
end Mine
theorem Mine.wend_La : True := by
  k_with_none
  trivial
namespace Mine
open PyProof.Rows.LCg
theorem S_beq (a b : List Nat) : (S a == S b) = (a == b) := by
  rw [Bool.eq_iff_iff, beq_iff_eq, beq_iff_eq]
  constructor
  · intro h; injection h with h; simpa using h
  · rintro rfl; rfl
section
theorem w1_Lb : True := by
  k_with_none
  (k_with "k_room" => first | exact Nat.le_of_ble_eq_true rfl | exact rm (b := 1) hdp (by decide) | exact rm (b := 2) hdp (by decide) | exact rm (b := 3) hdp (by decide) | exact rm (b := 4) hdp (by decide) | exact rm (b := 5) hdp (by decide) | exact rm (b := 6) hdp (by decide) | exact rm (b := 7) hdp (by decide) | exact rm (b := 8) hdp (by decide) | exact rm (b := 9) hdp (by decide) | exact rm (b := 10) hdp (by decide) | exact rm (b := 11) hdp (by decide) | exact rm (b := 12) hdp (by decide) | exact rm (b := 13) hdp (by decide) | exact rm (b := 14) hdp (by decide) | exact rm (b := 15) hdp (by decide) | exact rm (b := 16) hdp (by decide) | exact rm (b := 17) hdp (by decide) | exact rm (b := 18) hdp (by decide) | exact rm (b := 19) hdp (by decide) | exact rm (b := 20) hdp (by decide) | exact rm (b := 21) hdp (by decide) | exact rm (b := 22) hdp (by decide) | exact rm (b := 23) hdp (by decide) | exact rm (b := 24) hdp (by decide) | exact rm (b := 25) hdp (by decide) | exact rm (b := 1) hu (by decide) | exact rm (b := 3) hu (by decide) | exact rm (b := 4) hu (by decide) | exact rm (b := 7) hu (by decide) | exact rm (b := 19) hu (by decide) | exact rm (b := 23) hu (by decide) | exact rm (b := 35) hu (by decide) | exact rm (b := 39) hu (by decide) | exact rm (b := 51) hu (by decide) | exact rm (b := 55) hu (by decide) | exact rm (b := 64) hu (by decide) | exact rm (b := 67) hu (by decide) | exact rm (b := 71) hu (by decide) | exact rm (b := 83) hu (by decide) | exact rm (b := 87) hu (by decide) | exact rm (b := 99) hu (by decide) | exact rm (b := 103) hu (by decide) | exact rm (b := 115) hu (by decide) | exact rm (b := 119) hu (by decide) | exact rm (b := 131) hu (by decide) | exact rm (b := 135) hu (by decide) | exact rm (b := 147) hu (by decide) | exact rm (b := 151) hu (by decide) | exact rm (b := 163) hu (by decide) | exact rm (b := 167) hu (by decide) | exact rm (b := 179) hu (by decide) | exact rm (b := 183) hu (by decide) | exact rm (b := 195) hu (by decide) | exact rm (b := 199) hu (by decide) | exact rm (b := 211) hu (by decide) | exact rm (b := 215) hu (by decide) | exact rm (b := 227) hu (by decide) | exact rm (b := 231) hu (by decide) | exact rm (b := 243) hu (by decide) | exact rm (b := 247) hu (by decide) | exact rm (b := 259) hu (by decide) | exact rm (b := 263) hu (by decide) | exact rm (b := 275) hu (by decide) | exact rm (b := 279) hu (by decide) | exact rm (b := 291) hu (by decide) | exact rm (b := 295) hu (by decide) | exact rm (b := 307) hu (by decide) | exact rm (b := 311) hu (by decide) | exact rm (b := 323) hu (by decide) | exact rm (b := 327) hu (by decide) | exact rm (b := 339) hu (by decide) | exact rm (b := 343) hu (by decide) | exact rm (b := 355) hu (by decide) | exact rm (b := 371) hu (by decide) | exact rm (b := 387) hu (by decide) | ktr_room | ktr_units)
  (k_with "execs cons" => (k_here; k_fold))
  (k_with "execs cons" => (k_here; refine gen_tk ?_; intro tk8))
  (k_with "eval Constant str" => (k_here; refine const_str ?_; intro t8 tk8))
  (k_with "eval Constant int" => (k_here; refine const_int ?_; intro t8 tk8))
  (k_with "k_all" => assumption)
  (k_with "call ref" => (k_here; refine hold_of ?_))
  (k_with "exec For" => (k_here; refine hold_of ?_))
  (k_with "exec Assign cons ListComp" => (k_here; refine hold_of ?_))
  (k_with "CompSrcT" => (k_here; refine hold_of ?_))
  (k_with "compareOp Eq str str" => (k_here; refine' beq_is ?e ?_; (case e => first | with_reducible assumption | exact (show _ = true by decide +kernel) | exact (show _ = false by decide +kernel))))
  (k_with "execs cons" => (k_here; (with_reducible show wpAny _ _ (execs (Stmt.For _ _ _ _ _ :: _) _) _ _ _); refine hold_of ?_))
  trivial
theorem law_b (w : World) {oc : Value} {od : Option Addr} {osl : Array (Option Value)} {name qual : Str} {params : Arguments} {body : List Stmt} {scope : Scope} {dV kV doc pm cdv ct : Value} {an : Option Addr}
    (hK : (MineH.KH w.params).lookup 805 = some ⟨oc, od, .func (fnOf name qual params body scope dV kV doc pm an cdv ct), osl⟩)
    {loose : List Str} {mean : ExcName → Option Value} {mg mb : Str → Option Value} {g : Heap} {L fa : Addr} {cdw : Value} {s : Shared} {Q : Flow → Shared → Prop} {E : Value → Shared → Prop}
    {tx : List Nat} {toks : List (List Nat)} {m : Str → Option Value} {oP oS : Obj} {tt ts : Tok} {Tk : Nat} {tvs : List Value} {nt : Nat}
    (htx : tx.length ≤ 13) (hne : ∀ t ∈ toks, t ≠ []) (hE3 : sumE toks ≤ 3) (hfl : toks.flatten.length ≤ 52) (htl : toks.length ≤ 52)
    (dP : oP.data = .cell none) (dS : oS.data = .cell (some (.str (S (qd tx)) ts))) (hA : Are IsS tvs toks) (q1 : m (Str.ofString "text") = some (.str (S tx) tt)) (q2 : m (Str.ofString "tokens") = some (.ref Tk))
    (B : Below callerA g [] g) (F : Fr g L s.heap m) (N : News g L s.heap [(Tk, listOf tvs.toArray nt), (L + 1 + 1, oP), (L + 1, oS)])
    (X : (MineH.KH w.params).In g) (T : Top MineH.vw loose mean mg mb g)
    (hrest : ∀ (m : Str → Option Value) (h' : Heap) (tk' : Nat) (Td Sz : Nat) (dvs : List Value) (nd ns : Nat) (t0 t1 : Tok), Are IsS dvs ((textsF toks).filter fun b => qd b == qd tx) → 
      m (Str.ofString "text") = some (.str (S tx) tt) → m (Str.ofString "tokens") = some (.ref Tk) → m (Str.ofString "told") = some (.ref Td) → m (Str.ofString "sizes") = some (.ref Sz) → m (Str.ofString "count") = some (.int 1 t1) →
        Fr g L h' m → News g L h' [(Sz, listOf (List.toArray [Value.int 0 t0]) ns), (Td, listOf dvs.toArray nd), (Tk, listOf tvs.toArray nt), (L + 1 + 1, oP), (L + 1, oS)] → Td ≠ L + 1 → Td ≠ L + 1 + 1 → Td ≠ Tk → Sz ≠ Td → Sz ≠ L + 1 + 1 → 
        wpAny (model PySem.Challenge.rw_oc0215_01.row.prog w) (callerA.deeper (envOfC qual scope L fa cdw)) (execs (body.drop 6) (envOfC qual scope L fa cdw)) Q E { s with heap := h', toks := tk' }) :
    wpAny (model PySem.Challenge.rw_oc0215_01.row.prog w) (callerA.deeper (envOfC qual scope L fa cdw)) (execs (body.drop 4) (envOfC qual scope L fa cdw)) Q E s := by
  revert B F N X T hrest
  k_fill
  have e := hK.symm.trans (by with_unfolding_all rfl)
  cases e
  clear hK
  intro B F N X T hrest
  dsimp only [List.drop]
  have F₂ := fr_kst F (ps := [(Str.ofString "text", .str (S tx) tt), (Str.ofString "tokens", .ref Tk)]) (by simp only [List.forall_mem_cons]; exact ⟨q1, q2, fun _ h => nomatch h⟩)
  clear F
  k_steps
  unfold Hold
  refine LCt.Assign_ListComp_T (F₀ := by k_asm) (by rfl) (by with_unfolding_all rfl) (by with_unfolding_all rfl) (by decide) (by rfl) (by decide) (by rfl) (by rfl) (by rfl) ?_
  k_steps
  unfold Hold
  have N0 := (by k_asm : News g L _ _)
  have F0 := (by k_asm : Fr g L _ _)
  k_dflt (refine' texts_c w [(L + 1 + 1, oP), (L + 1, oS)] Tk tvs nt toks _ _ _ _ _ _ _ _ _ _ _ _ _ _ _ _ _ _ _ _ _ B F0 X N0 T rfl ⟨hA, hne, hE3, by first | lia | omega, by first | lia | omega⟩ ?kd ?ku ?_)
  case kd => k_room
  case ku => k_room
  intro Tx xvs nx h1 tk1 hAx F1 N1
  clear N0 F0
  have htb := texts_bound hE3 toks.length
  have hte := texts_each (Nat.le_trans hfl (by decide)) toks.length
  rw [List.take_length] at htb hte
  refine one_fromT (P1 := IsS) (as := textsF toks) (fun b => qd b == qd tx) rfl F1 N1 (.head _) hAx (Nat.le_trans htb (by decide)) ?each ?fin
  case each =>
    intro s' a v ys I' oI' C' oC' D' m₂ h tk E' ha hP hC hx F4 N4
    obtain ⟨t1, rfl⟩ := hP
    have hal : (S a).length ≤ 1000 := hte a ha
    k_steps
    unfold Hold
    have N5 := (by k_asm : News g L _ _)
    have F5 := (by k_asm : Fr g L _ _)
    k_dflt (refine' quotedata_c w _ (S a) t1 _ _ _ _ _ _ _ _ _ _ _ _ _ _ _ _ _ _ _ _ _ B F5 X N5 T rfl (by first | lia | omega) ?kd ?ku ?_)
    case kd => k_room
    case ku => k_room
    intro t6 h6 tk6 F6 N6
    clear N5 F5
    have hbq : ((⟨(qd (S a).cps.toList).toArray⟩ : Str) == S (qd tx)) = (qd a == qd tx) := S_beq (qd a) (qd tx)
    obtain ⟨bq, hbe⟩ : ∃ bq, (qd a == qd tx) = bq := ⟨_, rfl⟩
    rw [hbe] at hbq
    k_steps
    refine ⟨hbe.symm, ?_⟩
    cases bq with
    | true =>
      simp only [if_true]
      k_steps
      exact ⟨_, _, rfl, by k_asm, by k_asm, ⟨_, rfl⟩⟩
    | false =>
      simp only [Bool.false_eq_true, if_false]
      exact ⟨_, _, rfl, by k_asm, by k_asm, trivial⟩
  case fin =>
    intro gg ys2 hA2
    unfold FinA
    intro D' h' tk' F5 N5 o5
    have o6 := off1_mem o5
    k_steps
    unfold Hold
    rename_i Sz _ l1 TT _ l2 _ _ _ F6 N6
    exact hrest _ _ _ D' Sz ys2 _ _ _ _ hA2 rfl rfl rfl rfl rfl F6 (cb_drop N6 (by kcj_all)) (Ne.symm (o6 _ (.tail _ (.tail _ (.tail _ (.head _)))))) (Ne.symm (o6 _ (.tail _ (.tail _ (.head _))))) (Ne.symm (o6 _ (.tail _ (.head _)))) (by first | lia | omega) (by first | lia | omega)
end
theorem w2_Lb : True := by
  k_with_none
  trivial
end Mine
theorem Mine.wend_Lb : True := by
  k_with_none
  trivial
namespace Mine
open PyProof.Rows.LCg
section
theorem w1_Lc : True := by
  k_with_none
  (k_with "k_room" => first | exact Nat.le_of_ble_eq_true rfl | exact rm (b := 1) hdp (by decide) | exact rm (b := 2) hdp (by decide) | exact rm (b := 3) hdp (by decide) | exact rm (b := 4) hdp (by decide) | exact rm (b := 5) hdp (by decide) | exact rm (b := 6) hdp (by decide) | exact rm (b := 7) hdp (by decide) | exact rm (b := 8) hdp (by decide) | exact rm (b := 9) hdp (by decide) | exact rm (b := 10) hdp (by decide) | exact rm (b := 11) hdp (by decide) | exact rm (b := 12) hdp (by decide) | exact rm (b := 13) hdp (by decide) | exact rm (b := 14) hdp (by decide) | exact rm (b := 15) hdp (by decide) | exact rm (b := 16) hdp (by decide) | exact rm (b := 17) hdp (by decide) | exact rm (b := 18) hdp (by decide) | exact rm (b := 19) hdp (by decide) | exact rm (b := 20) hdp (by decide) | exact rm (b := 21) hdp (by decide) | exact rm (b := 22) hdp (by decide) | exact rm (b := 23) hdp (by decide) | exact rm (b := 24) hdp (by decide) | exact rm (b := 25) hdp (by decide) | exact rm (b := 1) hu (by decide) | exact rm (b := 3) hu (by decide) | exact rm (b := 4) hu (by decide) | exact rm (b := 7) hu (by decide) | exact rm (b := 19) hu (by decide) | exact rm (b := 23) hu (by decide) | exact rm (b := 35) hu (by decide) | exact rm (b := 39) hu (by decide) | exact rm (b := 51) hu (by decide) | exact rm (b := 55) hu (by decide) | exact rm (b := 64) hu (by decide) | exact rm (b := 67) hu (by decide) | exact rm (b := 71) hu (by decide) | exact rm (b := 83) hu (by decide) | exact rm (b := 87) hu (by decide) | exact rm (b := 99) hu (by decide) | exact rm (b := 103) hu (by decide) | exact rm (b := 115) hu (by decide) | exact rm (b := 119) hu (by decide) | exact rm (b := 131) hu (by decide) | exact rm (b := 135) hu (by decide) | exact rm (b := 147) hu (by decide) | exact rm (b := 151) hu (by decide) | exact rm (b := 163) hu (by decide) | exact rm (b := 167) hu (by decide) | exact rm (b := 179) hu (by decide) | exact rm (b := 183) hu (by decide) | exact rm (b := 195) hu (by decide) | exact rm (b := 199) hu (by decide) | exact rm (b := 211) hu (by decide) | exact rm (b := 215) hu (by decide) | exact rm (b := 227) hu (by decide) | exact rm (b := 231) hu (by decide) | exact rm (b := 243) hu (by decide) | exact rm (b := 247) hu (by decide) | exact rm (b := 259) hu (by decide) | exact rm (b := 263) hu (by decide) | exact rm (b := 275) hu (by decide) | exact rm (b := 279) hu (by decide) | exact rm (b := 291) hu (by decide) | exact rm (b := 295) hu (by decide) | exact rm (b := 307) hu (by decide) | exact rm (b := 311) hu (by decide) | exact rm (b := 323) hu (by decide) | exact rm (b := 327) hu (by decide) | exact rm (b := 339) hu (by decide) | exact rm (b := 343) hu (by decide) | exact rm (b := 355) hu (by decide) | exact rm (b := 371) hu (by decide) | exact rm (b := 387) hu (by decide) | ktr_room | ktr_units)
  (k_with "execs cons" => (k_here; k_fold))
  (k_with "execs cons" => (k_here; refine gen_tk ?_; intro tk8))
  (k_with "eval Constant str" => (k_here; refine const_str ?_; intro t8 tk8))
  (k_with "eval Constant int" => (k_here; refine const_int ?_; intro t8 tk8))
  (k_with "exec Assign cons ListComp" => (k_here; refine hold_of ?_))
  trivial
/-- the turn's end: sizes made anew -/
theorem law_sz (w : World) {oc : Value} {od : Option Addr} {osl : Array (Option Value)} {name qual : Str} {params : Arguments} {body : List Stmt} {scope : Scope} {dV kV doc pm cdv ct : Value} {an : Option Addr}
    (hK : (MineH.KH w.params).lookup 805 = some ⟨oc, od, .func (fnOf name qual params body scope dV kV doc pm an cdv ct), osl⟩)
    {t it : Expr} {fb oe rs : List Stmt} {p : Pos} (hb : body.drop 6 = .For t it fb oe p :: rs)
    {loose : List Str} {mean : ExcName → Option Value} {mg mb : Str → Option Value} {b0 g : Heap} {L fa : Addr} {cdw : Value} {s : Shared} {Q : Flow → Shared → Prop} {E : Value → Shared → Prop} {m : Str → Option Value}
    {I Pp Sz Td Tk : Nat} {oI oP oS : Obj} {pvs svs dvs tvs : List Value} {np nz nd nt : Nat} {ps zs : List Int}
    (dP : oP.data = .cell (some (.ref Pp))) (hps : IntsAre pvs ps) (hzs : IntsAre svs zs) (hb1 : ps.length ≤ 27) (hb2 : zs.length ≤ 27) (q1 : m (Str.ofString "sizes") = some (.ref Sz))
    (B : Below callerA b0 [] g) (F : Fr g L s.heap m) (N : News g L s.heap [(I, oI), (Pp, listOf pvs.toArray np), (Sz, listOf svs.toArray nz), (Td, listOf dvs.toArray nd), (Tk, listOf tvs.toArray nt), (L + 1 + 1, oP), (L + 1, oS)])
    (X : (MineH.KH w.params).In g) (T : Top MineH.vw loose mean mg mb g)
    (hrest : ∀ (h' : Heap) (tk' : Nat) (D : Nat) (ys : List Value) (k : Nat), IntsAre ys (zs.flatMap fun z => ps.map fun q => z + q) → Fr g L h' (fun y => if y = Str.ofString "sizes" then some (.ref D) else m y) →
        News g L h' [(I, oI), (D, listOf ys.toArray k), (Td, listOf dvs.toArray nd), (Tk, listOf tvs.toArray nt), (L + 1 + 1, oP), (L + 1, oS)] → D ≠ I → D ≠ L + 1 + 1 → Q .next { s with heap := h', toks := tk' }) :
    wpAny (model PySem.Challenge.rw_oc0215_01.row.prog w) (callerA.deeper (envOfC qual scope L fa cdw)) (execs (fb.drop 1) (envOfC qual scope L fa cdw)) Q E s := by
  revert B F N X T hrest hb
  k_fill
  have e := hK.symm.trans (by with_unfolding_all rfl)
  cases e
  clear hK
  intro hb
  cases hb
  intro B F N X T hrest
  dsimp only [List.drop]
  have F₂ := fr_kst F (ps := [(Str.ofString "sizes", .ref Sz)]) (by simp only [List.forall_mem_cons]; exact ⟨q1, fun _ h => nomatch h⟩)
  rw [show m = kstB m [(Str.ofString "sizes", .ref Sz)] from (funext fun z => kstB_eq (by simp only [List.forall_mem_cons]; exact ⟨q1, fun _ h => nomatch h⟩) (fun _ => rfl)).symm] at hrest
  clear F
  k_steps
  unfold Hold
  refine Assign_nest (h₀ := g) (L := L) (F₀ := by k_asm) rfl (by with_unfolding_all rfl) (by with_unfolding_all rfl) (by decide) rfl (by decide) rfl rfl (by decide) rfl rfl ?_
  k_steps
  refine nest_from (P1 := IsI) (P2 := IsI) (P3 := IsI) (as := zs) ps (fun a b => a + b) rfl (by k_asm) (by k_asm) (.inr ⟨_, by k_mem, rfl, _, rfl⟩) (are_ints hzs) (by have := Nat.mul_le_mul hb2 hb1; first | lia | omega) ?inner ?each ?fin
  case inner =>
    intro s' I' oI' C' oC' D' m₂ ys h tk E' hC F3 N3 off3
    k_steps
    exact ⟨Pp, pvs.toArray, [], _, _, rfl, rfl, F3, N3, trivial, .inl (.inr ⟨_, by k_mem, rfl, _, rfl⟩), are_ints hps⟩
  case each =>
    intro s' a b v u I' oI' C' oC' m' h tk rest E' hP1 hP2 hC hx hy F3 N3
    obtain ⟨t1, rfl⟩ := hP1
    obtain ⟨t2, rfl⟩ := hP2
    k_steps
    exact ⟨_, _, rfl, F3, N3, ⟨_, rfl⟩⟩
  case fin =>
    intro gg ys3 hA3
    unfold FinA
    intro D' h' tk' F5 N5 o5
    have o6 := off1_mem o5
    k_steps
    exact hrest _ _ D' ys3 _ hA3.ints F5 (cb_drop N5 (by kcj_all)) (Ne.symm (o6 _ (.head _))) (Ne.symm (o6 _ (.tail _ (.tail _ (.tail _ (.tail _ (.tail _ (.head _))))))))
end
theorem w2_Lc : True := by
  k_with_none
  trivial
end Mine
theorem Mine.wend_Lc : True := by
  k_with_none
  trivial
namespace Mine
open PyProof.Rows.LCg
theorem lst_ne_cell {g h : Heap} {L : Addr} {news : List (Addr × Obj)} (N : News g L h news) {a b : Nat} {o : Obj} {vs : Array Value} {n : Nat} {c : Option Value} (ha : (a, listOf vs n) ∈ news) (hb : (b, o) ∈ news) (ho : o.data = .cell c) : @Ne Nat a b := by
  rintro rfl
  have h1 := (N _ ha).1
  have h2 := (N _ hb).1
  rw [h1] at h2
  have h3 : listOf vs n = o := Option.some.inj h2
  rw [← h3] at ho
  cases ho
theorem second_fits {n : Nat} (h : 1 ≤ n ∧ n ≤ 3) (c : Int) : IntMulOk c (secondF n) := by
  have : n = 1 ∨ n = 2 ∨ n = 3 := by first | lia | omega
  rcases this with rfl | rfl | rfl <;> exact IntMulOk.of_right (by decide +kernel)
section
theorem w1_Le : True := by
  k_with_none
  (k_with "binaryOp Mult int int" => (k_here; refine P.mul_int ?_ (by with_reducible assumption)))
  (k_with "k_room" => first | exact Nat.le_of_ble_eq_true rfl | exact rm (b := 1) hdp (by decide) | exact rm (b := 2) hdp (by decide) | exact rm (b := 3) hdp (by decide) | exact rm (b := 4) hdp (by decide) | exact rm (b := 5) hdp (by decide) | exact rm (b := 6) hdp (by decide) | exact rm (b := 7) hdp (by decide) | exact rm (b := 8) hdp (by decide) | exact rm (b := 9) hdp (by decide) | exact rm (b := 10) hdp (by decide) | exact rm (b := 11) hdp (by decide) | exact rm (b := 12) hdp (by decide) | exact rm (b := 13) hdp (by decide) | exact rm (b := 14) hdp (by decide) | exact rm (b := 15) hdp (by decide) | exact rm (b := 16) hdp (by decide) | exact rm (b := 17) hdp (by decide) | exact rm (b := 18) hdp (by decide) | exact rm (b := 19) hdp (by decide) | exact rm (b := 20) hdp (by decide) | exact rm (b := 21) hdp (by decide) | exact rm (b := 22) hdp (by decide) | exact rm (b := 23) hdp (by decide) | exact rm (b := 24) hdp (by decide) | exact rm (b := 25) hdp (by decide) | exact rm (b := 1) hu (by decide) | exact rm (b := 3) hu (by decide) | exact rm (b := 4) hu (by decide) | exact rm (b := 7) hu (by decide) | exact rm (b := 19) hu (by decide) | exact rm (b := 23) hu (by decide) | exact rm (b := 35) hu (by decide) | exact rm (b := 39) hu (by decide) | exact rm (b := 51) hu (by decide) | exact rm (b := 55) hu (by decide) | exact rm (b := 64) hu (by decide) | exact rm (b := 67) hu (by decide) | exact rm (b := 71) hu (by decide) | exact rm (b := 83) hu (by decide) | exact rm (b := 87) hu (by decide) | exact rm (b := 99) hu (by decide) | exact rm (b := 103) hu (by decide) | exact rm (b := 115) hu (by decide) | exact rm (b := 119) hu (by decide) | exact rm (b := 131) hu (by decide) | exact rm (b := 135) hu (by decide) | exact rm (b := 147) hu (by decide) | exact rm (b := 151) hu (by decide) | exact rm (b := 163) hu (by decide) | exact rm (b := 167) hu (by decide) | exact rm (b := 179) hu (by decide) | exact rm (b := 183) hu (by decide) | exact rm (b := 195) hu (by decide) | exact rm (b := 199) hu (by decide) | exact rm (b := 211) hu (by decide) | exact rm (b := 215) hu (by decide) | exact rm (b := 227) hu (by decide) | exact rm (b := 231) hu (by decide) | exact rm (b := 243) hu (by decide) | exact rm (b := 247) hu (by decide) | exact rm (b := 259) hu (by decide) | exact rm (b := 263) hu (by decide) | exact rm (b := 275) hu (by decide) | exact rm (b := 279) hu (by decide) | exact rm (b := 291) hu (by decide) | exact rm (b := 295) hu (by decide) | exact rm (b := 307) hu (by decide) | exact rm (b := 311) hu (by decide) | exact rm (b := 323) hu (by decide) | exact rm (b := 327) hu (by decide) | exact rm (b := 339) hu (by decide) | exact rm (b := 343) hu (by decide) | exact rm (b := 355) hu (by decide) | exact rm (b := 371) hu (by decide) | exact rm (b := 387) hu (by decide) | ktr_room | ktr_units)
  (k_with "execs cons" => (k_here; k_fold))
  (k_with "execs cons" => (k_here; refine gen_tk ?_; intro tk8))
  (k_with "eval Constant str" => (k_here; refine const_str ?_; intro t8 tk8))
  (k_with "eval Constant int" => (k_here; refine const_int ?_; intro t8 tk8))
  (k_with "call ref" => (k_here; refine hold_of ?_))
  (k_with "exec For Name Name cons nil" => (k_here; refine hold_of ?_))
  (k_with "compareOp In str str" => (k_here; refine' in_isS ?e ?_; (case e => first | with_reducible assumption | exact (show _ = true by decide +kernel) | exact (show _ = false by decide +kernel))))
  (k_with "execs cons" => (k_here; (with_reducible show wpAny _ _ (execs (Stmt.Assign [Expr.Name (PySem.Str.ofString "sizes") _] _ _ :: _) _) _ _ _); refine hold_of ?_))
  (k_with "execs cons" => (k_here; (with_reducible show wpAny _ _ (execs (Stmt.If _ _ _ _ :: Stmt.If _ _ _ _ :: _) _) _ _ _); refine hold_of ?_))
  trivial
theorem law_e (w : World) {oc : Value} {od : Option Addr} {osl : Array (Option Value)} {name qual : Str} {params : Arguments} {body : List Stmt} {scope : Scope} {dV kV doc pm cdv ct : Value} {an : Option Addr}
    (hK : (MineH.KH w.params).lookup 805 = some ⟨oc, od, .func (fnOf name qual params body scope dV kV doc pm an cdv ct), osl⟩)
    {loose : List Str} {mean : ExcName → Option Value} {mg mb : Str → Option Value} {g : Heap} {L fa : Addr} {cdw : Value} {s : Shared} {Q : Flow → Shared → Prop} {E : Value → Shared → Prop}
    {tx : List Nat} {toks : List (List Nat)} {m : Str → Option Value} {oP oS : Obj} {tt ts t0 t1 : Tok} {Tk Td Sz0 : Nat} {tvs dvs : List Value} {nt nd nz0 : Nat}
    (hne : ∀ t ∈ toks, t ≠ []) (hE3 : sumE toks ≤ 3) (hrun : ∀ t ∈ toks, isRun t = true → 1 ≤ t.length / 2 ∧ t.length / 2 ≤ 3) (hfl : toks.flatten.length ≤ 52)
    (dP : oP.data = .cell none) (dS : oS.data = .cell (some (.str (S (qd tx)) ts))) (hA : Are IsS tvs toks)
    (q1 : m (Str.ofString "text") = some (.str (S tx) tt)) (q2 : m (Str.ofString "tokens") = some (.ref Tk)) (q3 : m (Str.ofString "told") = some (.ref Td)) (q4 : m (Str.ofString "sizes") = some (.ref Sz0)) (q5 : m (Str.ofString "count") = some (.int 1 t1))
    (B : Below callerA g [] g) (F : Fr g L s.heap m) (N : News g L s.heap [(Sz0, listOf (List.toArray [Value.int 0 t0]) nz0), (Td, listOf dvs.toArray nd), (Tk, listOf tvs.toArray nt), (L + 1 + 1, oP), (L + 1, oS)])
    (X : (MineH.KH w.params).In g) (T : Top MineH.vw loose mean mg mb g) (nTP : Td ≠ L + 1 + 1) (nTT : Td ≠ Tk) (nSP : Sz0 ≠ L + 1 + 1) (hEp : PassesOwn (model PySem.Challenge.rw_oc0215_01.row.prog w) (callerA.deeper (envOfC qual scope L fa cdw)) (envOfC qual scope L fa cdw) E)
    (hrest : ∀ (g' : Heap) (m : Str → Option Value) (h' : Heap) (tk' : Nat) (oP : Obj) (cv : Option Value) (Sz : Nat) (svs : List Value) (nz : Nat) (t2 : Tok), Gr callerA g [] (MineH.KH w.params) MineH.vw loose mean mg mb g g' → oP.data = .cell cv → IntsAre svs (toks.foldl sizesStep [0]) →
      m (Str.ofString "text") = some (.str (S tx) tt) → m (Str.ofString "tokens") = some (.ref Tk) → m (Str.ofString "told") = some (.ref Td) → m (Str.ofString "sizes") = some (.ref Sz) → m (Str.ofString "count") = some (.int (toks.foldl countStep 1) t2) →
        Fr g' L h' m → News g' L h' [(Sz, listOf svs.toArray nz), (Td, listOf dvs.toArray nd), (Tk, listOf tvs.toArray nt), (L + 1 + 1, oP), (L + 1, oS)] → 
        wpAny (model PySem.Challenge.rw_oc0215_01.row.prog w) (callerA.deeper (envOfC qual scope L fa cdw)) (execs (body.drop 7) (envOfC qual scope L fa cdw)) Q E { s with heap := h', toks := tk' }) :
    wpAny (model PySem.Challenge.rw_oc0215_01.row.prog w) (callerA.deeper (envOfC qual scope L fa cdw)) (execs (body.drop 6) (envOfC qual scope L fa cdw)) Q E s := by
  revert B F N X T hrest hEp
  k_fill
  have e := hK.symm.trans (by with_unfolding_all rfl)
  cases e
  have hz := @law_sz w _ _ _ _ _ _ _ _ _ _ _ _ _ _ _ hK _ _ _ _ _ _ rfl
  clear hK
  intro B F N X T hEp hrest
  dsimp only [List.drop] at hz hrest ⊢
  have F₂ := fr_kst F (ps := [(Str.ofString "text", .str (S tx) tt), (Str.ofString "tokens", .ref Tk), (Str.ofString "told", .ref Td), (Str.ofString "sizes", .ref Sz0), (Str.ofString "count", .int 1 t1)]) (by simp only [List.forall_mem_cons]; exact ⟨q1, q2, q3, q4, q5, fun _ h => nomatch h⟩)
  clear F
  k_steps
  unfold Hold
  have sLen := fun i => sizes_fold_len (toks.take i) [0] (fun t ht => hrun t (List.mem_of_mem_take ht))
  refine for_turnL (Gr callerA g [] (MineH.KH w.params) MineH.vw loose mean mg mb g) (by rfl) (by rfl) ?_ (hE := hEp)
  k_steps
  refine' ⟨g, Tk, tvs.toArray, nt, _, _, fun i m' nw => ∃ (Sz : Nat) (svs : List Value) (nz : Nat) (oP : Obj) (cv : Option Value) (t2 : Tok), oP.data = .cell cv ∧ IntsAre svs ((toks.take i).foldl sizesStep [0]) ∧ i ≤ toks.length ∧
      m' (Str.ofString "text") = some (.str (S tx) tt) ∧ m' (Str.ofString "tokens") = some (.ref Tk) ∧ m' (Str.ofString "told") = some (.ref Td) ∧ m' (Str.ofString "sizes") = some (.ref Sz) ∧ m' (Str.ofString "count") = some (.int ((toks.take i).foldl countStep 1) t2) ∧ Sz ≠ L + 1 + 1 ∧
      nw = [(Sz, listOf svs.toArray nz), (Td, listOf dvs.toArray nd), (Tk, listOf tvs.toArray nt), (L + 1 + 1, oP), (L + 1, oS)], Gr.refl B X T ktsDicts_nil, rfl, rfl, ?F0, ?N0, ?J0, ?hin, ?turn, ?done⟩
  case F0 => k_asm
  case N0 => k_asm
  case J0 => exact ⟨Sz0, _, nz0, oP, none, t1, dP, .cons _ _ .nil, Nat.zero_le _, rfl, rfl, rfl, rfl, rfl, nSP, rfl⟩
  case hin =>
    rintro i m' nw ⟨_, _, _, _, _, _, _, _, _, _, _, _, _, _, _, rfl⟩
    exact .tail _ (.tail _ (.head _))
  case turn =>
    clear hrest
    rintro g' i v m₁ news₁ I oI h₁ tk₁ hG hP ⟨Sz, svs, nz, oP', cv, t2, dP', hS, hil, p1, p2, p3, p4, p5, hSP, rfl⟩ F₁ N₁ off
    have B1 := hG.below
    have X1 := hG.here
    have T1 := hG.top
    have D1 := hG.dicts
    have hTkP := lst_ne_cell N₁ (.tail _ (.tail _ (.tail _ (.head _)))) (.tail _ (.tail _ (.tail _ (.tail _ (.head _))))) dP'
    have hIP : @Ne Nat I (L + 1 + 1) := Ne.symm (off _ (.tail _ (.tail _ (.tail _ (.head _)))))
    obtain ⟨t, ht, tk', rfl⟩ := hA.getA hP
    have htm := List.mem_of_getElem? ht
    obtain ⟨c0, r0, rfl⟩ : ∃ c0 r0, t = c0 :: r0 := by
      cases t with
      | nil => exact absurd rfl (hne _ htm)
      | cons c r => exact ⟨c, r, rfl⟩
    have F₂ := fr_kst F₁ (ps := [(Str.ofString "text", .str (S tx) tt), (Str.ofString "tokens", .ref Tk), (Str.ofString "told", .ref Td), (Str.ofString "sizes", .ref Sz), (Str.ofString "count", .int ((toks.take i).foldl countStep 1) t2)]) (by simp only [List.forall_mem_cons]; exact ⟨p1, p2, p3, p4, p5, fun _ h => nomatch h⟩)
    clear F₁ p1 p2 p3 p4 p5
    have qc : Txt.contains (Str.ofString "\r\n") (Txt.item (S (c0 :: r0)) 0) = isEnd c0 := by rw [S_item, contains_crlfS]
    have htl' : (c0 :: r0).length ≤ 52 := Nat.le_trans (tok_len htm) hfl
    have hr0 : r0.length ≤ 52 := by simp at htl'; first | lia | omega
    have hlr : (S (c0 :: r0)).length = r0.length + 1 := rfl
    have hil1 : i + 1 ≤ toks.length := (List.getElem?_eq_some_iff.mp ht).1
    have hzl : ((toks.take i).foldl sizesStep [0]).length ≤ 27 := by
      have h1 := sLen i
      have h2 := sumE_take toks i
      have h3 : 3 ^ sumE (toks.take i) ≤ 3 ^ 3 := Nat.pow_le_pow_right (by decide) (by first | lia | omega)
      simp at h1
      first | lia | omega
    have hst1 : (toks.take (i + 1)).foldl sizesStep [0] = sizesStep ((toks.take i).foldl sizesStep [0]) (c0 :: r0) := by rw [take_snoc ht, List.foldl_append]; rfl
    have hst2 : (toks.take (i + 1)).foldl countStep 1 = countStep ((toks.take i).foldl countStep 1) (c0 :: r0) := by rw [take_snoc ht, List.foldl_append]; rfl
    cases hc : isEnd c0 with
    | true =>
      rw [hc] at qc
      have hrn : isRun (c0 :: r0) = true := hc
      have hn3 := hrun _ htm hrn
      have eb : ((S (c0 :: r0)).length : Int).fdiv 2 = (((c0 :: r0).length / 2 : Nat) : Int) := by
        show (((c0 :: r0).length : Nat) : Int).fdiv 2 = _
        rw [Int.fdiv_eq_ediv_of_nonneg _ (by decide)]; rfl
      k_steps
      unfold Hold
      rw [eb]
      have N5 := (by k_asm : News g' L _ _)
      have F5 := (by k_asm : Fr g' L _ _)
      k_dflt (refine' sizes_c w [(I, oI), (Sz, listOf svs.toArray nz), (Td, listOf dvs.toArray nd), (Tk, listOf tvs.toArray nt), (L + 1 + 1, oP'), (L + 1, oS)] ((c0 :: r0).length / 2) _ loose mean mg mb _ _ _ _ _ _ _ _ _ _ g g' L _ _ _ _ B1 F5 X1 N5 T1 rfl X T D1 hn3 ?kd ?ku ?_)
      case kd => k_room
      case ku => k_room
      intro g6 Pp pvs np h6 tk6 hG6 hIp F6 N6
      have hG7 := hG.trans hG6
      have B6 := hG6.below
      have X6 := hG6.here
      have T6 := hG6.top
      have hPP := lst_ne_cell N6 (.head _) (.tail _ (.tail _ (.tail _ (.tail _ (.tail _ (.head _)))))) dP'
      clear B1 X1 T1 D1 F5 N5
      k_steps
      unfold Hold
      rw [eb]
      rename_i oP2 F8 N8 dP2
      k_dflt (refine' second_c w _ ((c0 :: r0).length / 2) _ _ _ _ _ _ _ _ _ _ _ _ _ _ _ _ _ _ _ _ _ _ B6 F8 X6 N8 T6 rfl hn3 ?kd ?ku ?_)
      case kd => k_room
      case ku => k_room
      intro t9 h9 tk9 F9 N9
      clear F8 N8
      have hmul := second_fits hn3 ((toks.take i).foldl countStep 1)
      k_steps
      unfold Hold
      have hpl : (sizesF ((c0 :: r0).length / 2)).length ≤ 27 := by
        have h1 := parts_len (t := c0 :: r0) (fun _ => hn3)
        rw [partsF, if_pos hrn, nE, if_pos hrn] at h1
        have h3 : 3 ^ ((c0 :: r0).length / 2) ≤ 3 ^ 3 := Nat.pow_le_pow_right (by decide) hn3.2
        first | lia | omega
      refine hz (oI := oI) (np := np) (nz := nz) (nd := nd) (nt := nt) (dvs := dvs) (tvs := tvs) (oS := oS) dP2 hIp hS hpl hzl ?q B6 (by k_asm) (cb_drop (by k_asm) (by kcj_all)) X6 T6 ?_
      case q => rfl
      intro h' tk' D ys k hI F N hDI hDP
      refine ⟨rfl, g6, _, _, _, [(D, listOf ys.toArray k), (Td, listOf dvs.toArray nd), (Tk, listOf tvs.toArray nt), (L + 1 + 1, oP2), (L + 1, oS)], hG7, rfl, F, N, ?off, D, ys, k, oP2, _, _, dP2, by rw [hst1, sizesStep, partsF, if_pos hrn]; exact hI, hil1, rfl, rfl, rfl, rfl, by rw [hst2, countStep, if_pos hrn]; rfl, hDP, rfl⟩
      case off =>
        intro p hp
        rcases List.mem_cons.mp hp with rfl | hp
        · exact hDI
        · rcases List.mem_cons.mp hp with rfl | hp
          · exact off _ (.tail _ (.head _))
          · rcases List.mem_cons.mp hp with rfl | hp
            · exact off _ (.tail _ (.tail _ (.head _)))
            · rcases List.mem_cons.mp hp with rfl | hp
              · exact Ne.symm hIP
              · exact off _ (.tail _ (.tail _ (.tail _ (.tail _ hp))))
    | false =>
      rw [hc] at qc
      have hnr : isRun (c0 :: r0) = false := hc
      k_steps
      unfold Hold
      have N5 := (by k_asm : News g' L _ _)
      have F5 := (by k_asm : Fr g' L _ _)
      k_dflt (refine' word_c w _ c0 r0 _ _ _ _ _ _ _ _ _ _ _ _ _ _ _ _ _ _ _ _ _ _ B1 F5 X1 N5 T1 rfl (by first | lia | omega) ?kd ?ku ?_)
      case kd => k_room
      case ku => k_room
      intro t9 h9 tk9 F9 N9
      clear F5 N5
      have hlw : (S (wordF (c0 :: r0))).length ≤ 52 := Nat.le_trans (wordF_len (c0 :: r0)) htl'
      k_steps
      unfold Hold
      rename_i Pp _ lP _ oP2 F8 N8 dP2
      refine hz (ps := [((wordF (c0 :: r0)).length : Int)]) (oI := oI) (np := 0) (nz := nz) (nd := nd) (nt := nt) (dvs := dvs) (tvs := tvs) (oS := oS) dP2 (.cons _ _ .nil) hS (by simp) hzl ?q B1 F8 (cb_drop N8 (by kcj_all)) X1 T1 ?_
      case q => rfl
      intro h' tk' D ys k hI F N hDI hDP
      refine ⟨rfl, g', _, _, _, [(D, listOf ys.toArray k), (Td, listOf dvs.toArray nd), (Tk, listOf tvs.toArray nt), (L + 1 + 1, oP2), (L + 1, oS)], hG, rfl, F, N, ?off, D, ys, k, oP2, _, _, dP2, by rw [hst1, sizesStep, partsF, if_neg (by rw [hnr]; simp)]; exact hI, hil1, rfl, rfl, rfl, rfl, by rw [hst2, countStep, if_neg (by rw [hnr]; simp)]; rfl, hDP, rfl⟩
      case off =>
        intro p hp
        rcases List.mem_cons.mp hp with rfl | hp
        · exact hDI
        · rcases List.mem_cons.mp hp with rfl | hp
          · exact off _ (.tail _ (.head _))
          · rcases List.mem_cons.mp hp with rfl | hp
            · exact off _ (.tail _ (.tail _ (.head _)))
            · rcases List.mem_cons.mp hp with rfl | hp
              · exact Ne.symm hIP
              · exact off _ (.tail _ (.tail _ (.tail _ (.tail _ hp))))
  case done =>
    rintro g' h' tk' m₁ news₁ hG F₁ N₁ ⟨Sz, svs, nz, oP', cv, t2, dP', hS, hil, p1, p2, p3, p4, p5, hSP, rfl⟩
    have hsz : tvs.toArray.size = toks.length := by rw [List.size_toArray]; exact hA.length
    rw [hsz, List.take_length] at hS p5
    k_steps
    unfold Hold
    exact hrest g' m₁ _ _ oP' cv Sz svs nz t2 hG dP' hS p1 p2 p3 p4 p5 F₁ N₁
end
theorem w2_Le : True := by
  k_with_none
  trivial
end Mine
theorem Mine.wend_Le : True := by
  k_with_none
  trivial
namespace Mine
open PyProof.Rows.LCg
theorem join_S' : ∀ xs : List (List Nat), Str.join (Str.ofString "") (xs.map S) = S xs.flatten
  | [] => by decide +kernel
  | [x] => by
    show S x = _
    simp
  | x :: y :: r => by
    show S x ++ Str.ofString "" ++ Str.join (Str.ofString "") ((y :: r).map S) = _
    have e0 : Str.ofString "" = S [] := by decide +kernel
    rw [join_S' (y :: r), e0, S_app, S_app, List.append_nil]
    rfl
theorem join_S (xs : List (List Nat)) : Txt.join (Str.ofString "") (xs.map S) = S xs.flatten := by
  show Builtin.Str.glued _ _ = _
  rw [StrLaws.glued_eq_join]
  exact join_S' xs
theorem sum_S : ∀ xs : List (List Nat), ((xs.map S).map (·.length)).sum = xs.flatten.length
  | [] => rfl
  | x :: r => by
    rw [List.map_cons, List.map_cons, List.sum_cons, sum_S r, List.flatten_cons, List.length_append]
    rfl
section
variable {prog : Program} {w : World} {A : Around} {E : Value → Shared → Prop} {s : Shared} {h₀ : Heap} {L : Addr} {m : Str → Option Value} {news : List (Addr × Obj)} {l : Nat} {vs : List Value} {n : Nat}
theorem join_K {t : Tok} {xs : List (List Nat)} {Q : Value → Shared → Prop} (N : News h₀ L s.heap news) (hm : (l, listOf vs.toArray n) ∈ news) (hA : Are IsS vs xs) (h1 : xs.flatten.length ≤ 500000) (h2 : xs.length ≤ 500000)
    (h : ∀ t' k, Q (.str (S xs.flatten) t') { s with toks := k }) : wpAny (model prog w) A (call (.builtin "str.join") [.str (Str.ofString "") t, .ref l]) Q E s := by
  refine join_listW (items := vs.toArray) (ys := xs.map S) ⟨_, (N _ hm).1, rfl, n, rfl⟩ (by simpa using hA.strs) (by decide +kernel) (by rw [sum_S, List.length_map]; first | lia | omega) fun t' k => ?_
  rw [join_S]
  exact h t' k
theorem bne_is {x y : Str} {t u : Tok} {Q : Value → Shared → Prop} (e : x = y) (h : Q (.bool false) s) : wpAny (model prog w) A (compareOp .NotEq (.str x t) (.str y u)) Q E s := P.ne_str (by subst e; rw [bne_self_eq_false]; exact h)
theorem ine_is {a b : Int} {t u : Tok} {Q : Value → Shared → Prop} (e : a = b) (h : Q (.bool false) s) : wpAny (model prog w) A (compareOp .NotEq (.int a t) (.int b u)) Q E s := P.ne_int (by subst e; rw [bne_self_eq_false]; exact h)
theorem notin_K {t : Tok} {x : List Nat} {xs : List (List Nat)} {Q : Value → Shared → Prop} (N : News h₀ L s.heap news) (hm : (l, listOf vs.toArray n) ∈ news) (hA : Are IsS vs xs) (hx : x ∈ xs) (h : Q (.bool false) s) :
    wpAny (model prog w) A (compareOp .NotIn (.str (S x) t) (.ref l)) Q E s := by
  refine notin_list_strs (vs := vs) ⟨_, (N _ hm).1, rfl, n, rfl⟩ hA.strs ?_
  have e : (xs.map S).any (· == S x) = true := by
    rw [List.any_map, List.any_eq_true]
    exact ⟨x, hx, by simp⟩
  rw [e]; exact h
theorem len_set_K {D : Nat} {o : Obj} {kk : Nat} {St : Str → Bool} {Q : Value → Shared → Prop} (N : News h₀ L s.heap news) (hm : (D, o) ∈ news) (ho : o.SetObjOf (PySem.strKind prog w) St kk) (hf : (kk : Int) < 2 ^ 63) (h : Q (.int kk (s.toks + 1)) { s with toks := s.toks + 1 + 1 }) :
    wpAny (model prog w) A (call (.builtin "len") [.ref D]) Q E s := by
  obtain ⟨hex, es, ep, t, hd, _, _, hn, hfit⟩ := ho
  subst hn
  exact call_len_set (N _ hm).1 hex hd hfit hf h
theorem sorted_K {ns : List Int} {Q : Value → Shared → Prop} (F : Fr h₀ L s.heap m) (N : News h₀ L s.heap news) (hm : (l, listOf vs.toArray n) ∈ news) (hi : IntsAre vs ns) (h64 : ns.length < 64)
    (h : ∀ (D : Nat) vs' ns' c h', Fr h₀ L h' m → News h₀ L h' ((D, PySem.W.listOf vs'.toArray c) :: news) → IntsAre vs' ns' → ns'.Perm ns → ns'.Pairwise (· ≤ ·) → Q (.ref D) { s with heap := h' }) :
    wpAny (model prog w) A (call (.builtin "sorted") [.ref l]) Q E s :=
  kso_sorted F N ⟨_, (N _ hm).1, rfl, n, rfl⟩ hi h64 fun D vs' ns' c h' F' N' _ hi' _ hp ho _ => h D vs' ns' c h' F' N' hi' hp ho
theorem eql_K {a b : Nat} {us : List Value} {k : Nat} {ns ms : List Int} {Q : Value → Shared → Prop} (N : News h₀ L s.heap news) (ha : (a, listOf vs.toArray n) ∈ news) (hb : (b, listOf us.toArray k) ∈ news) (hi : IntsAre vs ns) (hj : IntsAre us ms) (e : ns = ms) (hu : A.units + 64 < cLine) (h : Q (.bool true) s) :
    wpAny (model prog w) A (compareOp .Eq (.ref a) (.ref b)) Q E s :=
  eq_intsK ⟨_, (N _ ha).1, rfl, n, rfl⟩ hi ⟨_, (N _ hb).1, rfl, k, rfl⟩ hj hu (by rw [decide_eq_true e]; exact h)
end
theorem sentF_len (t : List Nat) : (sentF t).length ≤ t.length + 1 := by
  unfold sentF
  split
  · rw [crlfs_len]; first | lia | omega
  · have := wordF_len t
    split
    · simp; first | lia | omega
    · first | lia | omega
section
theorem w1_Lf : True := by
  k_with_none
  (k_with "k_room" => first | exact Nat.le_of_ble_eq_true rfl | exact rm (b := 1) hdp (by decide) | exact rm (b := 2) hdp (by decide) | exact rm (b := 3) hdp (by decide) | exact rm (b := 4) hdp (by decide) | exact rm (b := 5) hdp (by decide) | exact rm (b := 6) hdp (by decide) | exact rm (b := 7) hdp (by decide) | exact rm (b := 8) hdp (by decide) | exact rm (b := 9) hdp (by decide) | exact rm (b := 10) hdp (by decide) | exact rm (b := 11) hdp (by decide) | exact rm (b := 12) hdp (by decide) | exact rm (b := 13) hdp (by decide) | exact rm (b := 14) hdp (by decide) | exact rm (b := 15) hdp (by decide) | exact rm (b := 16) hdp (by decide) | exact rm (b := 17) hdp (by decide) | exact rm (b := 18) hdp (by decide) | exact rm (b := 19) hdp (by decide) | exact rm (b := 20) hdp (by decide) | exact rm (b := 21) hdp (by decide) | exact rm (b := 22) hdp (by decide) | exact rm (b := 23) hdp (by decide) | exact rm (b := 24) hdp (by decide) | exact rm (b := 25) hdp (by decide) | exact rm (b := 1) hu (by decide) | exact rm (b := 3) hu (by decide) | exact rm (b := 4) hu (by decide) | exact rm (b := 7) hu (by decide) | exact rm (b := 19) hu (by decide) | exact rm (b := 23) hu (by decide) | exact rm (b := 35) hu (by decide) | exact rm (b := 39) hu (by decide) | exact rm (b := 51) hu (by decide) | exact rm (b := 55) hu (by decide) | exact rm (b := 64) hu (by decide) | exact rm (b := 67) hu (by decide) | exact rm (b := 71) hu (by decide) | exact rm (b := 83) hu (by decide) | exact rm (b := 87) hu (by decide) | exact rm (b := 99) hu (by decide) | exact rm (b := 103) hu (by decide) | exact rm (b := 115) hu (by decide) | exact rm (b := 119) hu (by decide) | exact rm (b := 131) hu (by decide) | exact rm (b := 135) hu (by decide) | exact rm (b := 147) hu (by decide) | exact rm (b := 151) hu (by decide) | exact rm (b := 163) hu (by decide) | exact rm (b := 167) hu (by decide) | exact rm (b := 179) hu (by decide) | exact rm (b := 183) hu (by decide) | exact rm (b := 195) hu (by decide) | exact rm (b := 199) hu (by decide) | exact rm (b := 211) hu (by decide) | exact rm (b := 215) hu (by decide) | exact rm (b := 227) hu (by decide) | exact rm (b := 231) hu (by decide) | exact rm (b := 243) hu (by decide) | exact rm (b := 247) hu (by decide) | exact rm (b := 259) hu (by decide) | exact rm (b := 263) hu (by decide) | exact rm (b := 275) hu (by decide) | exact rm (b := 279) hu (by decide) | exact rm (b := 291) hu (by decide) | exact rm (b := 295) hu (by decide) | exact rm (b := 307) hu (by decide) | exact rm (b := 311) hu (by decide) | exact rm (b := 323) hu (by decide) | exact rm (b := 327) hu (by decide) | exact rm (b := 339) hu (by decide) | exact rm (b := 343) hu (by decide) | exact rm (b := 355) hu (by decide) | exact rm (b := 371) hu (by decide) | exact rm (b := 387) hu (by decide) | ktr_room | ktr_units)
  (k_with "execs cons" => (k_here; k_fold))
  (k_with "execs cons" => (k_here; refine gen_tk ?_; intro tk8))
  (k_with "eval Constant str" => (k_here; refine const_str ?_; intro t8 tk8))
  (k_with "eval Constant int" => (k_here; refine const_int ?_; intro t8 tk8))
  (k_with "no such key" => skip)
  (k_with "call ref" => (k_here; refine hold_of ?_))
  (k_with "eval ListComp" => (k_here; refine hold_of ?_))
  (k_with "CompSrc" => (k_here; refine hold_of ?_))
  (k_with "call builtin:str.join" => (k_here; refine hold_of ?_))
  (k_with "call type:set" => (k_here; refine hold_of ?_))
  (k_with "call builtin:len" => (k_here; (with_reducible show wpAny _ _ (call (Value.builtin _) [Value.ref _]) _ _ _); refine hold_of ?_))
  (k_with "call builtin:sorted" => (k_here; refine hold_of ?_))
  (k_with "compareOp Eq ref ref" => (k_here; refine hold_of ?_))
  (k_with "compareOp NotEq str str" => (k_here; refine bne_is (by with_reducible assumption) ?_))
  (k_with "compareOp NotEq int int" => (k_here; refine ine_is (by with_reducible assumption) ?_))
  (k_with "compareOp NotIn str ref" => (k_here; refine hold_of ?_))
  trivial
theorem law_f (w : World) {oc : Value} {od : Option Addr} {osl : Array (Option Value)} {name qual : Str} {params : Arguments} {body : List Stmt} {scope : Scope} {dV kV doc pm cdv ct : Value} {an : Option Addr}
    (hK : (MineH.KH w.params).lookup 805 = some ⟨oc, od, .func (fnOf name qual params body scope dV kV doc pm an cdv ct), osl⟩)
    {loose : List Str} {mean : ExcName → Option Value} {mg mb : Str → Option Value} {b0 g : Heap} {L fa : Addr} {cdw : Value} {s : Shared} {Q : Flow → Shared → Prop} {E : Value → Shared → Prop}
    {tx : List Nat} {toks told : List (List Nat)} {m : Str → Option Value} {oP oS : Obj} {cv : Option Value} {tt ts t2 : Tok} {Tk Td Sz : Nat} {tvs dvs svs : List Value} {nt nd nz : Nat} {sz : List Int} {cnt : Int}
    (hne : ∀ t ∈ toks, t ≠ []) (hfl : toks.flatten.length ≤ 52) (htl : toks.length ≤ 52) (hjoin : (toks.map sentF).flatten = qd tx) (hin : tx ∈ told) (hnd : told.Nodup) (hcnt : cnt = (told.length : Int)) (hperm : sz.Perm (told.map fun b => (b.length : Int))) (hto : told.length ≤ 27) (hte : ∀ b ∈ told, b.length ≤ 1000) (hqd : (qd tx).length ≤ 52)
    (dP : oP.data = .cell cv) (dS : oS.data = .cell (some (.str (S (qd tx)) ts))) (hA : Are IsS tvs toks) (hD : Are IsS dvs told) (hZ : IntsAre svs sz)
    (q1 : m (Str.ofString "text") = some (.str (S tx) tt)) (q2 : m (Str.ofString "tokens") = some (.ref Tk)) (q3 : m (Str.ofString "told") = some (.ref Td)) (q4 : m (Str.ofString "sizes") = some (.ref Sz)) (q5 : m (Str.ofString "count") = some (.int cnt t2))
    (B : Below callerA b0 [] g) (F : Fr g L s.heap m) (N : News g L s.heap [(Sz, listOf svs.toArray nz), (Td, listOf dvs.toArray nd), (Tk, listOf tvs.toArray nt), (L + 1 + 1, oP), (L + 1, oS)])
    (X : (MineH.KH w.params).In g) (T : Top MineH.vw loose mean mg mb g) 
    (hret : ∀ h' tk', (∀ b o, g.get? b = some o → h'.get? b = some o) → Q (.ret (.bool true)) { s with heap := h', toks := tk' }) :
    wpAny (model PySem.Challenge.rw_oc0215_01.row.prog w) (callerA.deeper (envOfC qual scope L fa cdw)) (execs (body.drop 7) (envOfC qual scope L fa cdw)) Q E s := by
  revert B F N X T
  k_fill
  have e := hK.symm.trans (by with_unfolding_all rfl)
  cases e
  clear hK
  intro B F N X T
  dsimp only [List.drop]
  have F₂ := fr_kst F (ps := [(Str.ofString "text", .str (S tx) tt), (Str.ofString "tokens", .ref Tk), (Str.ofString "told", .ref Td), (Str.ofString "sizes", .ref Sz), (Str.ofString "count", .int cnt t2)]) (by simp only [List.forall_mem_cons]; exact ⟨q1, q2, q3, q4, q5, fun _ h => nomatch h⟩)
  clear F
  k_steps
  unfold Hold
  refine ListComp_U (F₀ := by k_asm) (by rfl) (by decide) (by rfl) (by decide) (by rfl) ?_
  k_steps
  unfold Hold
  refine one_from (P1 := fun t v => IsS t v ∧ t ∈ toks) (P3 := IsS) (as := toks) sentF rfl (by k_asm) (by k_asm) (by k_mem) (hA.with fun _ h => h) (by first | lia | omega) ?each ?fin
  case each =>
    intro s' a v ys I' oI' C' oC' D' m₂ h tk E' hP hC hx F4 N4
    obtain ⟨⟨t1, rfl⟩, hat⟩ := hP
    obtain ⟨c0, r0, rfl⟩ : ∃ c0 r0, a = c0 :: r0 := by
      cases a with
      | nil => exact absurd rfl (hne _ hat)
      | cons c r => exact ⟨c, r, rfl⟩
    have htl' : (c0 :: r0).length ≤ 52 := Nat.le_trans (tok_len hat) hfl
    have hr0 : r0.length ≤ 52 := by simp at htl'; first | lia | omega
    k_steps
    unfold Hold
    have N5 := (by k_asm : News g L _ _)
    have F5 := (by k_asm : Fr g L _ _)
    k_dflt (refine' sent_c w _ c0 r0 _ _ _ _ _ _ _ _ _ _ _ _ _ _ _ _ _ _ _ _ _ _ B F5 X N5 T rfl (by first | lia | omega) ?kd ?ku ?_)
    case kd => k_room
    case ku => k_room
    intro t9 h9 tk9 F9 N9
    exact ⟨_, _, rfl, F9, N9, ⟨_, rfl⟩⟩
  case fin =>
    intro gg jvs hJ
    unfold FinE
    intro Jd h' tk' F5 N5 o5
    k_steps
    unfold Hold
    have hjl : (toks.map sentF).flatten.length ≤ 52 := by rw [hjoin]; exact hqd
    refine join_K (by k_asm) (.head _) hJ (by first | lia | omega) (by rw [List.length_map]; first | lia | omega) fun t' k => ?_
    rw [hjoin]
    have hjj : S (qd tx) = S (qd tx) := rfl
    k_steps
    unfold Hold
    refine notin_K (by k_asm) (by k_mem) hD hin ?_
    k_steps
    unfold Hold
    have hdn : (told.map S).Nodup := nodup_map' hnd fun x _ y _ e => by injection e with e; simpa using e
    refine set_new rfl (by k_asm) (by k_asm) (by k_mem) hD.strs hdn (by rw [List.length_map]; unfold scanBound; first | lia | omega) fun Ds h5 tk5 o5s F6 N6 hso _ => ?_
    k_steps
    unfold Hold
    refine len_set_K (by k_asm) (.head _) hso (by rw [List.length_map]; first | lia | omega) ?_
    rw [List.length_map]
    have hcnt' : (told.length : Int) = cnt := hcnt.symm
    k_steps
    unfold Hold
    refine sorted_K (by k_asm) (by k_asm) (by k_mem) hZ (by rw [hperm.length_eq, List.length_map]; first | lia | omega) fun D1 vs1 ns1 c1 h6 F7 N7 i1 p1 o1 => ?_
    k_steps
    unfold Hold
    refine ListComp_U (F₀ := by k_asm) (by rfl) (by decide) (by rfl) (by decide) (by rfl) ?_
    k_steps
    unfold Hold
    refine one_from (P1 := fun t v => IsS t v ∧ t ∈ told) (P3 := IsI) (as := told) (fun b => (b.length : Int)) rfl (by k_asm) (by k_asm) (by k_mem) (hD.with fun _ h => h) (by first | lia | omega) ?each ?fin
    case each =>
      intro s' a v ys I' oI' C' oC' D' m₂ h tk E' hP hC hx F4 N4
      obtain ⟨⟨t1, rfl⟩, hat⟩ := hP
      have htl' : (S a).length ≤ 1000 := hte a hat
      k_steps
      exact ⟨_, _, rfl, by k_asm, by k_asm, ⟨_, rfl⟩⟩
    case fin =>
      intro gg2 lvs hL
      unfold FinE
      intro Ld h' tk' F8 N8 o8
      k_steps
      unfold Hold
      refine sorted_K (by k_asm) (by k_asm) (.head _) hL.ints (by rw [List.length_map]; first | lia | omega) fun D2 vs2 ns2 c2 h9 F9 N9 i2 p2 o2 => ?_
      k_steps
      unfold Hold
      refine eql_K (by k_asm) (by k_mem) (.head _) i1 i2 (sorted_eq hperm p1 p2 o1 o2) ?hu ?_
      case hu => ktr_units
      k_steps
      exact hret _ _ F9.keep
end
theorem w2_Lf : True := by
  k_with_none
  trivial
end Mine
theorem Mine.wend_Lf : True := by
  k_with_none
  trivial
namespace Mine
theorem law_all (w : World) {oc : Value} {od : Option Addr} {osl : Array (Option Value)} {name qual : Str} {params : Arguments} {body : List Stmt} {scope : Scope} {dV kV doc pm cdv ct : Value} {an : Option Addr}
    (hK : (MineH.KH w.params).lookup 805 = some ⟨oc, od, .func (fnOf name qual params body scope dV kV doc pm an cdv ct), osl⟩)
    {loose : List Str} {mean : ExcName → Option Value} {mg mb : Str → Option Value} {g : Heap} {L fa l : Addr} {cdw : Value} {s : Shared} {cells : List (Addr × Obj)} {vs : List Value} {ns : List Int} {Q : Flow → Shared → Prop} {E : Value → Shared → Prop}
    (B : Below callerA g [] g) (F : Fr g L s.heap (bindL (envOfC qual scope L fa cdw).kindOf [(Str.ofString "script", .ref l)] fun _ => none)) (N : News g L s.heap cells)
    (Y : CellsAre (bindC (envOfC qual scope L fa cdw).kindOf [(Str.ofString "script", .ref l)] fun _ => none) (cellsFrom (L + 1) scope.names []) cells)
    (X : (MineH.KH w.params).In g) (T : Top MineH.vw loose mean mg mb g) (hl : g.IsList l vs.toArray) (hi : IntsAre vs ns) (h63 : ns.length ≤ 63)
    (hEp : PassesOwn (model PySem.Challenge.rw_oc0215_01.row.prog w) (callerA.deeper (envOfC qual scope L fa cdw)) (envOfC qual scope L fa cdw) E)
    (hret : ∀ h' tk', (∀ b o, g.get? b = some o → h'.get? b = some o) → Q (.ret (.bool true)) { s with heap := h', toks := tk' }) :
    wpAny (model PySem.Challenge.rw_oc0215_01.row.prog w) (callerA.deeper (envOfC qual scope L fa cdw)) (execs body (envOfC qual scope L fa cdw)) Q E s := by
  refine law_a w hK B F N Y X T hl hi h63 fun a b c m h1 tk1 oP oS tt ts Tk tvs nt toks dP dS hA hR q1 q2 F1 N1 => ?_
  have hlf : lfs (norm (textF [a, b, c])) ≤ 3 := lfs_text [a, b, c]
  obtain ⟨hS, hjoin, hin, hnd, hcnt, hperm⟩ := plain hR hlf
  have hne := hR.ne
  have hfl : toks.flatten.length ≤ 52 := by
    rw [hR.flat]
    exact Nat.le_trans (qd_len (textF [a, b, c])) (Nat.mul_le_mul_left 4 (text_len [a, b, c]))
  have htl : toks.length ≤ 52 := Nat.le_trans (len_flat hne) hfl
  have hE3 : sumE toks ≤ 3 := by rw [hS.sumE]; exact hlf
  have hrun : ∀ t ∈ toks, isRun t = true → 1 ≤ t.length / 2 ∧ t.length / 2 ≤ 3 := fun t ht hr => ⟨(hS.each t ht hr).1, Nat.le_trans (hS.each t ht hr).2 hlf⟩
  have hqd : (qd (textF [a, b, c])).length ≤ 52 := by rw [← hR.flat]; exact hfl
  have hte : ∀ x ∈ textsF toks, x.length ≤ 1000 := by
    have := texts_each (Nat.le_trans hfl (by decide)) toks.length
    rw [List.take_length] at this
    exact this
  refine law_b w hK (text_len [a, b, c]) hne hE3 hfl htl dP dS hA q1 q2 B F1 N1 X T fun m h2 tk2 Td Sz dvs nd nz t0 t1 hD p1 p2 p3 p4 p5 F2 N2 _ n2 n3 _ n5 => ?_
  refine law_e w hK hne hE3 hrun hfl dP dS hA p1 p2 p3 p4 p5 B F2 N2 X T n2 n3 n5 hEp fun g' m h3 tk3 oP' cv Sz' svs nz' t2 hG dP' hZ r1 r2 r3 r4 r5 F3 N3 => ?_
  exact law_f w hK hne hfl htl hjoin hin hnd hcnt hperm (filter_texts_len hE3) (fun x hx => hte x (List.mem_filter.mp hx).1) hqd dP' dS hA hD hZ r1 r2 r3 r4 r5 hG.below F3 N3 hG.here hG.top fun h' tk' hk => hret h' tk' fun b o e => hk b o (hG.below.stays b o e)
end Mine
local macro_rules | `(tactic| k_qdec) => `(tactic| decide +kernel)
theorem PySem.Challenge.cw_oc0215_01_holds : PySem.Challenge.rw_oc0215_01.Holds := by
  exact MineH.hd_two (by
    w_strict k_go0
    refine' Mine.law_all _ ?hK ?B ?F ?N ?Y ?X ?T ?hl ?hi ?h63 ?hEp ?hret
    case hK => with_unfolding_all rfl
    case B => assumption
    case F => assumption
    case N => assumption
    case Y => assumption
    case X => assumption
    case T => assumption
    case hl => assumption
    case hi => assumption
    case h63 => omega
    case hEp => with_unfolding_all passes_own
    intro h' tk' hkeep
    show GoodW _ _ _ _ _ (.ok (.ret (.bool true))) _
    refine ⟨.inl ⟨.bool true, .bool true, [], rfl, raisesW_false ?hn, .bool true, ?hp, fun _ => ⟨List.nodup_nil, fun a h => nomatch h⟩⟩, hkeep, rfl, by assumption⟩
    case hn => wrow_none_raised
    case hp => kc_post)
