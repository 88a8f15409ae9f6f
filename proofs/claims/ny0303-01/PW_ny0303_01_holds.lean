import PyProof.Rows.All
import Wide.All
import OpenK.AllK
import Wide.FinOn
import PySem.Challenge.RW_ny0303_01
set_option Elab.async false
set_option maxRecDepth 100000
set_option linter.unusedVariables false
-- part HeadO
set_option maxHeartbeats 0
namespace Mine.Ho
open PySem PySem.W PySem.Calls PyProof.Rows
noncomputable section
noncomputable abbrev Z : Value := .none
noncomputable abbrev I (i : Int) (t : Nat) : Value := .int i t
noncomputable abbrev S (x : String) (t : Nat) : Value := .str (Str.ofString x) t
noncomputable abbrev S0 (x : String) : Str := Str.ofString x
noncomputable abbrev T (x : String) : Value := .type x
noncomputable abbrev B (x : String) : Value := .builtin x
noncomputable abbrev R (a : Nat) : Value := .ref a
noncomputable abbrev sq (l : List Value) (n : Nat) : Data := .seq l.toArray n
noncomputable abbrev dc (l : List DictEntry) (n : Nat) : Data := .dict l.toArray n
noncomputable abbrev fd (l : List Value) : Data := .fields l.toArray
noncomputable abbrev E (P : Params) (x : String) (t : Nat) (v : Value) : DictEntry := ⟨PyData.keyHash P (Str.ofString x), .str (Str.ofString x) t, v⟩
noncomputable abbrev N (o : Obj) (a b : BT) : BT := .node o a b
noncomputable abbrev L : BT := .nil
noncomputable def s1 (i : Nat) : Stmt := match PySem.Challenge.pw_ny0303_01.main.body[i]? with
  | some s => s
  | none => .Pass ⟨0, 0, 0, 0⟩
noncomputable def s2 (i j : Nat) : Stmt := match s1 i with
  | .ClassDef _ _ _ b _ _ _ _ _ _ _ => (match b[j]? with
    | some s => s
    | none => .Pass ⟨0, 0, 0, 0⟩)
  | s => s
noncomputable def fn (st : Stmt) (qual : String) (g : Addr) (cl : List (Str × Addr)) (dV kV doc pm : Value) (an : Option Addr) (cdv ct : Value) (bl : Addr) : FuncData := match st with
  | .FunctionDef n a b _ _ _ sc _ _ _ => ⟨n, Str.ofString qual, a, .stmts b, sc, g, cl, dV, kV, doc, pm, an, cdv, ct, bl⟩
  | _ => default
noncomputable def o0 (P : Params) : Obj := ⟨(T "dict"), none, (dc [E P "__name__" 1 (S "builtins" 160), E P "__doc__" 2 (B "builtins.__doc__:str#opaque"), E P "__package__" 3 (B "builtins.__package__:str#opaque"), E P "__loader__" 4 (B "builtins.__loader__:shared#opaque"), E P "__spec__" 5 (B "builtins.__spec__#opaque"), E P "__build_class__" 6 (B "__build_class__"), E P "__import__" 7 (B "__import__"), E P "abs" 8 (B "abs"), E P "all" 9 (B "all"), E P "any" 10 (B "any"), E P "ascii" 11 (B "ascii"), E P "bin" 12 (B "bin"), E P "breakpoint" 13 (B "breakpoint"), E P "callable" 14 (B "callable"), E P "chr" 15 (B "chr"), E P "compile" 16 (B "compile"), E P "delattr" 17 (B "delattr"), E P "dir" 18 (B "dir"), E P "divmod" 19 (B "divmod"), E P "eval" 20 (B "eval"), E P "exec" 21 (B "exec"), E P "format" 22 (B "format"), E P "getattr" 23 (B "getattr"), E P "globals" 24 (B "globals"), E P "hasattr" 25 (B "hasattr"), E P "hash" 26 (B "hash"), E P "hex" 27 (B "hex"), E P "id" 28 (B "id"), E P "input" 29 (B "input"), E P "isinstance" 30 (B "isinstance"), E P "issubclass" 31 (B "issubclass"), E P "iter" 32 (B "iter"), E P "aiter" 33 (B "aiter"), E P "len" 34 (B "len"), E P "locals" 35 (B "locals"), E P "max" 36 (B "max"), E P "min" 37 (B "min"), E P "next" 38 (B "next"), E P "anext" 39 (B "anext"), E P "oct" 40 (B "oct"), E P "ord" 41 (B "ord"), E P "pow" 42 (B "pow"), E P "print" 43 (B "print"), E P "repr" 44 (B "repr"), E P "round" 45 (B "round"), E P "setattr" 46 (B "setattr"), E P "sorted" 47 (B "sorted"), E P "sum" 48 (B "sum"), E P "vars" 49 (B "vars"), E P "None" 50 Z, E P "Ellipsis" 51 .ellipsis, E P "NotImplemented" 52 .notImplemented, E P "False" 53 (.bool false), E P "True" 54 (.bool true), E P "bool" 55 (T "bool"), E P "memoryview" 56 (T "memoryview"), E P "bytearray" 57 (T "bytearray"), E P "bytes" 58 (T "bytes"), E P "classmethod" 59 (T "classmethod"), E P "complex" 60 (T "complex"), E P "dict" 61 (T "dict"), E P "enumerate" 62 (T "enumerate"), E P "filter" 63 (T "filter"), E P "float" 64 (T "float"), E P "frozenset" 65 (T "frozenset"), E P "property" 66 (T "property"), E P "int" 67 (T "int"), E P "list" 68 (T "list"), E P "map" 69 (T "map"), E P "object" 70 (T "object"), E P "range" 71 (T "range"), E P "reversed" 72 (T "reversed"), E P "set" 73 (T "set"), E P "slice" 74 (T "slice"), E P "staticmethod" 75 (T "staticmethod"), E P "str" 76 (T "str"), E P "super" 77 (T "super"), E P "tuple" 78 (T "tuple"), E P "type" 79 (T "type"), E P "zip" 80 (T "zip"), E P "__debug__" 81 (.bool true), E P "BaseException" 82 (T "BaseException"), E P "BaseExceptionGroup" 83 (T "BaseExceptionGroup"), E P "Exception" 84 (T "Exception"), E P "GeneratorExit" 85 (T "GeneratorExit"), E P "KeyboardInterrupt" 86 (T "KeyboardInterrupt"), E P "SystemExit" 87 (T "SystemExit"), E P "ArithmeticError" 88 (T "ArithmeticError"), E P "AssertionError" 89 (T "AssertionError"), E P "AttributeError" 90 (T "AttributeError"), E P "BufferError" 91 (T "BufferError"), E P "EOFError" 92 (T "EOFError"), E P "ImportError" 93 (T "ImportError"), E P "LookupError" 94 (T "LookupError"), E P "MemoryError" 95 (T "MemoryError"), E P "NameError" 96 (T "NameError"), E P "OSError" 97 (T "OSError"), E P "ReferenceError" 98 (T "ReferenceError"), E P "RuntimeError" 99 (T "RuntimeError"), E P "StopAsyncIteration" 100 (T "StopAsyncIteration"), E P "StopIteration" 101 (T "StopIteration"), E P "SyntaxError" 102 (T "SyntaxError"), E P "SystemError" 103 (T "SystemError"), E P "TypeError" 104 (T "TypeError"), E P "ValueError" 105 (T "ValueError"), E P "Warning" 106 (T "Warning"), E P "FloatingPointError" 107 (T "FloatingPointError"), E P "OverflowError" 108 (T "OverflowError"), E P "ZeroDivisionError" 109 (T "ZeroDivisionError"), E P "BytesWarning" 110 (T "BytesWarning"), E P "DeprecationWarning" 111 (T "DeprecationWarning"), E P "EncodingWarning" 112 (T "EncodingWarning"), E P "FutureWarning" 113 (T "FutureWarning"), E P "ImportWarning" 114 (T "ImportWarning"), E P "PendingDeprecationWarning" 115 (T "PendingDeprecationWarning"), E P "ResourceWarning" 116 (T "ResourceWarning"), E P "RuntimeWarning" 117 (T "RuntimeWarning"), E P "SyntaxWarning" 118 (T "SyntaxWarning"), E P "UnicodeWarning" 119 (T "UnicodeWarning"), E P "UserWarning" 120 (T "UserWarning"), E P "BlockingIOError" 121 (T "BlockingIOError"), E P "ChildProcessError" 122 (T "ChildProcessError"), E P "ConnectionError" 123 (T "ConnectionError"), E P "FileExistsError" 124 (T "FileExistsError"), E P "FileNotFoundError" 125 (T "FileNotFoundError"), E P "InterruptedError" 126 (T "InterruptedError"), E P "IsADirectoryError" 127 (T "IsADirectoryError"), E P "NotADirectoryError" 128 (T "NotADirectoryError"), E P "PermissionError" 129 (T "PermissionError"), E P "ProcessLookupError" 130 (T "ProcessLookupError"), E P "TimeoutError" 131 (T "TimeoutError"), E P "IndentationError" 132 (T "IndentationError"), E P "_IncompleteInputError" 133 (T "_IncompleteInputError"), E P "IndexError" 134 (T "IndexError"), E P "KeyError" 135 (T "KeyError"), E P "ModuleNotFoundError" 136 (T "ModuleNotFoundError"), E P "NotImplementedError" 137 (T "NotImplementedError"), E P "PythonFinalizationError" 138 (T "PythonFinalizationError"), E P "RecursionError" 139 (T "RecursionError"), E P "UnboundLocalError" 140 (T "UnboundLocalError"), E P "UnicodeError" 141 (T "UnicodeError"), E P "BrokenPipeError" 142 (T "BrokenPipeError"), E P "ConnectionAbortedError" 143 (T "ConnectionAbortedError"), E P "ConnectionRefusedError" 144 (T "ConnectionRefusedError"), E P "ConnectionResetError" 145 (T "ConnectionResetError"), E P "TabError" 146 (T "TabError"), E P "UnicodeDecodeError" 147 (T "UnicodeDecodeError"), E P "UnicodeEncodeError" 148 (T "UnicodeEncodeError"), E P "UnicodeTranslateError" 149 (T "UnicodeTranslateError"), E P "ExceptionGroup" 150 (T "ExceptionGroup"), E P "EnvironmentError" 151 (T "OSError"), E P "IOError" 152 (T "OSError"), E P "open" 153 (B "open"), E P "quit" 154 (B "builtins.quit#opaque"), E P "exit" 155 (B "builtins.exit#opaque"), E P "copyright" 156 (B "builtins.copyright#opaque"), E P "credits" 157 (B "builtins.credits#opaque"), E P "license" 158 (B "builtins.license#opaque"), E P "help" 159 (B "builtins.help#opaque")] 159), #[]⟩
noncomputable def o1 (P : Params) : Obj := ⟨(T "dict"), none, (dc [E P "builtins" 162 (R 4), E P "__main__" 163 (R 5), E P "_sre" 244 (R 12), E P "_collections" 292 (R 30)] 4), #[]⟩
noncomputable def o2 (P : Params) : Obj := ⟨Z, none, (dc [E P "\x69mport.loaded._sre" 183 (.bool true), E P "class._frozen_importlib.BuiltinImporter" 185 (R 14), E P "watched.\x69mport" 206 (R 18), E P "class._frozen_importlib.ModuleSpec" 216 (R 22), E P "sys.modules.booked-epoch" 245 (I (4) 0), E P "\x69mport.later-laid._sre" 270 (.bool true), E P "watched.library" 272 (R 27), E P "watched.library-objects" 0 (S "\x0c\x1e" 0), E P "watched.library-deep._sre" 273 (S "\x04\x00\x00\x0b\x04\x00\x00\x0b\x04\x00\x00\x03\x04\x00\x00\x0b\x08\x04dict\x02" 0), E P "\x69mport.loaded._collections" 280 (.bool true), E P "sys.modules.landed._collections" 294 (.bool true), E P "\x69mport.later-laid._collections" 309 (.bool true), E P "watched.library-deep._collections" 311 (S "\x04\x00\x00\x1d\x04\x00\x00\x1d\x04\x00\x00\x03\x04\x00\x00\x1d\x08\x04dict\x02" 0)] 13), #[]⟩
noncomputable def o3 (P : Params) : Obj := ⟨(T "dict"), none, (dc [E P "__name__" 165 (S "__main__" 164), E P "__doc__" 166 Z, E P "__package__" 167 Z, E P "__loader__" 168 (B "__main__.__loader__#opaque"), E P "__spec__" 169 Z, E P "__annotations__" 170 (R 6), E P "__builtins__" 171 (R 4), E P "__file__" 173 (S "/claim/cut.py" 172), E P "__cached__" 174 Z, E P "_sre" 275 (R 12), E P "deque" 317 (T "collections.deque")] 11), #[]⟩
noncomputable def o4 (P : Params) : Obj := ⟨(T "module"), (some 0), .plain, #[]⟩
noncomputable def o5 (P : Params) : Obj := ⟨(T "module"), (some 3), .plain, #[]⟩
noncomputable def o6 (P : Params) : Obj := ⟨(T "dict"), none, (dc [] 0), #[]⟩
noncomputable def o7 (P : Params) : Obj := ⟨(T "tuple"), none, (sq [] 0), #[]⟩
noncomputable def o8 (P : Params) : Obj := ⟨Z, none, (fd []), #[]⟩
noncomputable def o9 (P : Params) : Obj := ⟨(T "code"), none, (fd [(S "<module>" 176), (S "<module>" 177), (S "/claim/cut.py" 178), (I (1) 0), (I (0) 0), (I (0) 0), (I (0) 0), (I (0) 0), (R 7), (.bool false), (I (175) 0), (R 8), Z, Z, Z, Z, (I (179) 0), (I (1) 0), (S "/claim/cut.py" 180)]), #[]⟩
noncomputable def o10 (P : Params) : Obj := ⟨(T "frame"), none, .plain, #[(some (R 9)), (some (R 3)), (some (R 3)), none, (some (S "__main__" 164)), none, (some (R 0))]⟩
noncomputable def o11 (P : Params) : Obj := ⟨(T "dict"), none, (dc [E P "__name__" 247 (S "_sre" 246), E P "__doc__" 248 Z, E P "__package__" 250 (S "" 249), E P "__loader__" 251 (R 14), E P "__spec__" 252 (R 26), E P "compile" 253 (B "_sre.compile"), E P "template" 254 (B "_sre.template"), E P "getcodesize" 255 (B "_sre.getcodesize"), E P "ascii_iscased" 256 (B "_sre.ascii_iscased"), E P "unicode_iscased" 257 (B "_sre.unicode_iscased"), E P "ascii_tolower" 258 (B "_sre.ascii_tolower"), E P "unicode_tolower" 259 (B "_sre.unicode_tolower"), E P "MAGIC" 261 (I (20230612) 260), E P "CODESIZE" 263 (I (4) 262), E P "MAXREPEAT" 265 (I (4294967295) 264), E P "MAXGROUPS" 267 (I (1073741823) 266), E P "copyright" 269 (S " SRE 2.2.2 Copyright (c) 1997-2002 by Secret Labs AB " 268)] 17), #[]⟩
noncomputable def o12 (P : Params) : Obj := ⟨(T "module"), (some 11), .plain, #[]⟩
noncomputable def o13 (P : Params) : Obj := ⟨(T "dict"), none, (dc [E P "__module__" 189 (S "_frozen_importlib" 186), E P "__firstlineno__" 190 (I (971) 187), E P "__doc__" 191 (B "_frozen_importlib.BuiltinImporter.__doc__:str#opaque"), E P "_ORIGIN" 192 (S "built-in" 188), E P "find_spec" 193 (B "_frozen_importlib.BuiltinImporter.find_spec#opaque"), E P "create_module" 194 (B "_frozen_importlib.BuiltinImporter.create_module#opaque"), E P "exec_module" 195 (B "_frozen_importlib.BuiltinImporter.exec_module#opaque"), E P "get_code" 196 (B "_frozen_importlib.BuiltinImporter.get_code#opaque"), E P "get_source" 197 (B "_frozen_importlib.BuiltinImporter.get_source#opaque"), E P "is_package" 198 (B "_frozen_importlib.BuiltinImporter.is_package#opaque"), E P "load_module" 199 (B "_frozen_importlib.BuiltinImporter.load_module#opaque"), E P "__static_attributes__" 200 (R 15), E P "__dict__" 202 (R 16), E P "__weakref__" 204 (R 17)] 14), #[]⟩
noncomputable def o14 (P : Params) : Obj := ⟨(T "type"), none, (.cls ⟨S0 "BuiltinImporter", [(T "object")], [(R 14), (T "object")], 13, S0 "BuiltinImporter", true, [], [], false, none, false⟩), #[]⟩
noncomputable def o15 (P : Params) : Obj := ⟨(T "tuple"), none, (sq [] 0), #[]⟩
noncomputable def o16 (P : Params) : Obj := ⟨(T "getset_descriptor"), none, (fd [(S "__dict__" 201), (R 14), (B "function.__dict__"), (B "function.__dict__#set")]), #[]⟩
noncomputable def o17 (P : Params) : Obj := ⟨(T "getset_descriptor"), none, (fd [(S "__weakref__" 203), (R 14), (B "ExceptionGroup.__weakref__"), Z]), #[]⟩
noncomputable def o18 (P : Params) : Obj := ⟨Z, none, (sq [(I (13) 0), (.str ⟨#[6, 189, 10, 95, 95, 109, 111, 100, 117, 108, 101, 95, 95, 6, 186, 17, 95, 102, 114, 111, 122, 101, 110, 95, 105, 109, 112, 111, 114, 116, 108, 105, 98, 6, 190, 15, 95, 95, 102, 105, 114, 115, 116, 108, 105, 110, 101, 110, 111, 95, 95, 4, 187, 0, 971, 6, 191, 7, 95, 95, 100, 111, 99, 95, 95, 9, 52, 95, 102, 114, 111, 122, 101, 110, 95, 105, 109, 112, 111, 114, 116, 108, 105, 98, 46, 66, 117, 105, 108, 116, 105, 110, 73, 109, 112, 111, 114, 116, 101, 114, 46, 95, 95, 100, 111, 99, 95, 95, 58, 115, 116, 114, 35, 111, 112, 97, 113, 117, 101, 6, 192, 7, 95, 79, 82, 73, 71, 73, 78, 6, 188, 8, 98, 117, 105, 108, 116, 45, 105, 110, 6, 193, 9, 102, 105, 110, 100, 95, 115, 112, 101, 99, 9, 50, 95, 102, 114, 111, 122, 101, 110, 95, 105, 109, 112, 111, 114, 116, 108, 105, 98, 46, 66, 117, 105, 108, 116, 105, 110, 73, 109, 112, 111, 114, 116, 101, 114, 46, 102, 105, 110, 100, 95, 115, 112, 101, 99, 35, 111, 112, 97, 113, 117, 101, 6, 194, 13, 99, 114, 101, 97, 116, 101, 95, 109, 111, 100, 117, 108, 101, 9, 54, 95, 102, 114, 111, 122, 101, 110, 95, 105, 109, 112, 111, 114, 116, 108, 105, 98, 46, 66, 117, 105, 108, 116, 105, 110, 73, 109, 112, 111, 114, 116, 101, 114, 46, 99, 114, 101, 97, 116, 101, 95, 109, 111, 100, 117, 108, 101, 35, 111, 112, 97, 113, 117, 101, 6, 195, 11, 101, 120, 101, 99, 95, 109, 111, 100, 117, 108, 101, 9, 52, 95, 102, 114, 111, 122, 101, 110, 95, 105, 109, 112, 111, 114, 116, 108, 105, 98, 46, 66, 117, 105, 108, 116, 105, 110, 73, 109, 112, 111, 114, 116, 101, 114, 46, 101, 120, 101, 99, 95, 109, 111, 100, 117, 108, 101, 35, 111, 112, 97, 113, 117, 101, 6, 196, 8, 103, 101, 116, 95, 99, 111, 100, 101, 9, 49, 95, 102, 114, 111, 122, 101, 110, 95, 105, 109, 112, 111, 114, 116, 108, 105, 98, 46, 66, 117, 105, 108, 116, 105, 110, 73, 109, 112, 111, 114, 116, 101, 114, 46, 103, 101, 116, 95, 99, 111, 100, 101, 35, 111, 112, 97, 113, 117, 101, 6, 197, 10, 103, 101, 116, 95, 115, 111, 117, 114, 99, 101, 9, 51, 95, 102, 114, 111, 122, 101, 110, 95, 105, 109, 112, 111, 114, 116, 108, 105, 98, 46, 66, 117, 105, 108, 116, 105, 110, 73, 109, 112, 111, 114, 116, 101, 114, 46, 103, 101, 116, 95, 115, 111, 117, 114, 99, 101, 35, 111, 112, 97, 113, 117, 101, 6, 198, 10, 105, 115, 95, 112, 97, 99, 107, 97, 103, 101, 9, 51, 95, 102, 114, 111, 122, 101, 110, 95, 105, 109, 112, 111, 114, 116, 108, 105, 98, 46, 66, 117, 105, 108, 116, 105, 110, 73, 109, 112, 111, 114, 116, 101, 114, 46, 105, 115, 95, 112, 97, 99, 107, 97, 103, 101, 35, 111, 112, 97, 113, 117, 101, 6, 199, 11, 108, 111, 97, 100, 95, 109, 111, 100, 117, 108, 101, 9, 52, 95, 102, 114, 111, 122, 101, 110, 95, 105, 109, 112, 111, 114, 116, 108, 105, 98, 46, 66, 117, 105, 108, 116, 105, 110, 73, 109, 112, 111, 114, 116, 101, 114, 46, 108, 111, 97, 100, 95, 109, 111, 100, 117, 108, 101, 35, 111, 112, 97, 113, 117, 101, 6, 200, 21, 95, 95, 115, 116, 97, 116, 105, 99, 95, 97, 116, 116, 114, 105, 98, 117, 116, 101, 115, 95, 95, 4, 0, 0, 15, 6, 202, 8, 95, 95, 100, 105, 99, 116, 95, 95, 4, 0, 0, 16, 6, 204, 11, 95, 95, 119, 101, 97, 107, 114, 101, 102, 95, 95, 4, 0, 0, 17]⟩ 0), (.bool true), (.bool true), (S "" 205), (I (21) 0), (.str ⟨#[6, 227, 10, 95, 95, 109, 111, 100, 117, 108, 101, 95, 95, 6, 217, 17, 95, 102, 114, 111, 122, 101, 110, 95, 105, 109, 112, 111, 114, 116, 108, 105, 98, 6, 228, 15, 95, 95, 102, 105, 114, 115, 116, 108, 105, 110, 101, 110, 111, 95, 95, 4, 218, 0, 562, 6, 229, 7, 95, 95, 100, 111, 99, 95, 95, 9, 47, 95, 102, 114, 111, 122, 101, 110, 95, 105, 109, 112, 111, 114, 116, 108, 105, 98, 46, 77, 111, 100, 117, 108, 101, 83, 112, 101, 99, 46, 95, 95, 100, 111, 99, 95, 95, 58, 115, 116, 114, 35, 111, 112, 97, 113, 117, 101, 6, 230, 8, 95, 95, 105, 110, 105, 116, 95, 95, 9, 44, 95, 102, 114, 111, 122, 101, 110, 95, 105, 109, 112, 111, 114, 116, 108, 105, 98, 46, 77, 111, 100, 117, 108, 101, 83, 112, 101, 99, 46, 95, 95, 105, 110, 105, 116, 95, 95, 35, 111, 112, 97, 113, 117, 101, 6, 231, 8, 95, 95, 114, 101, 112, 114, 95, 95, 9, 44, 95, 102, 114, 111, 122, 101, 110, 95, 105, 109, 112, 111, 114, 116, 108, 105, 98, 46, 77, 111, 100, 117, 108, 101, 83, 112, 101, 99, 46, 95, 95, 114, 101, 112, 114, 95, 95, 35, 111, 112, 97, 113, 117, 101, 6, 232, 6, 95, 95, 101, 113, 95, 95, 9, 42, 95, 102, 114, 111, 122, 101, 110, 95, 105, 109, 112, 111, 114, 116, 108, 105, 98, 46, 77, 111, 100, 117, 108, 101, 83, 112, 101, 99, 46, 95, 95, 101, 113, 95, 95, 35, 111, 112, 97, 113, 117, 101, 6, 233, 6, 99, 97, 99, 104, 101, 100, 9, 42, 95, 102, 114, 111, 122, 101, 110, 95, 105, 109, 112, 111, 114, 116, 108, 105, 98, 46, 77, 111, 100, 117, 108, 101, 83, 112, 101, 99, 46, 99, 97, 99, 104, 101, 100, 35, 111, 112, 97, 113, 117, 101, 6, 234, 6, 112, 97, 114, 101, 110, 116, 9, 42, 95, 102, 114, 111, 122, 101, 110, 95, 105, 109, 112, 111, 114, 116, 108, 105, 98, 46, 77, 111, 100, 117, 108, 101, 83, 112, 101, 99, 46, 112, 97, 114, 101, 110, 116, 35, 111, 112, 97, 113, 117, 101, 6, 235, 12, 104, 97, 115, 95, 108, 111, 99, 97, 116, 105, 111, 110, 9, 48, 95, 102, 114, 111, 122, 101, 110, 95, 105, 109, 112, 111, 114, 116, 108, 105, 98, 46, 77, 111, 100, 117, 108, 101, 83, 112, 101, 99, 46, 104, 97, 115, 95, 108, 111, 99, 97, 116, 105, 111, 110, 35, 111, 112, 97, 113, 117, 101, 6, 236, 21, 95, 95, 115, 116, 97, 116, 105, 99, 95, 97, 116, 116, 114, 105, 98, 117, 116, 101, 115, 95, 95, 4, 0, 0, 23, 6, 238, 8, 95, 95, 100, 105, 99, 116, 95, 95, 4, 0, 0, 24, 6, 240, 11, 95, 95, 119, 101, 97, 107, 114, 101, 102, 95, 95, 4, 0, 0, 25, 6, 241, 8, 95, 95, 104, 97, 115, 104, 95, 95, 0]⟩ 0), (.bool true), (.bool true), (S "" 242)] 1), #[]⟩
noncomputable def o19 (P : Params) : Obj := ⟨(T "list"), none, (sq [] 0), #[]⟩
noncomputable def o20 (P : Params) : Obj := ⟨(T "dict"), none, (dc [E P "name" 208 (S "_sre" 207), E P "loader" 209 (R 14), E P "origin" 210 (S "built-in" 184), E P "loader_state" 211 Z, E P "submodule_search_locations" 212 Z, E P "_uninitialized_submodules" 213 (R 19), E P "_set_fileattr" 214 (.bool false), E P "_cached" 215 Z, E P "_initializing" 243 (.bool false)] 9), #[]⟩
noncomputable def o21 (P : Params) : Obj := ⟨(T "dict"), none, (dc [E P "__module__" 227 (S "_frozen_importlib" 217), E P "__firstlineno__" 228 (I (562) 218), E P "__doc__" 229 (B "_frozen_importlib.ModuleSpec.__doc__:str#opaque"), E P "__init__" 230 (B "_frozen_importlib.ModuleSpec.__init__#opaque"), E P "__repr__" 231 (B "_frozen_importlib.ModuleSpec.__repr__#opaque"), E P "__eq__" 232 (B "_frozen_importlib.ModuleSpec.__eq__#opaque"), E P "cached" 233 (B "_frozen_importlib.ModuleSpec.cached#opaque"), E P "parent" 234 (B "_frozen_importlib.ModuleSpec.parent#opaque"), E P "has_location" 235 (B "_frozen_importlib.ModuleSpec.has_location#opaque"), E P "__static_attributes__" 236 (R 23), E P "__dict__" 238 (R 24), E P "__weakref__" 240 (R 25), E P "__hash__" 241 Z] 13), #[]⟩
noncomputable def o22 (P : Params) : Obj := ⟨(T "type"), none, (.cls ⟨S0 "ModuleSpec", [(T "object")], [(R 22), (T "object")], 21, S0 "ModuleSpec", true, [], [], false, none, false⟩), #[]⟩
noncomputable def o23 (P : Params) : Obj := ⟨(T "tuple"), none, (sq [(S "_cached" 219), (S "_set_fileattr" 220), (S "_uninitialized_submodules" 221), (S "loader" 222), (S "loader_state" 223), (S "name" 224), (S "origin" 225), (S "submodule_search_locations" 226)] 0), #[]⟩
noncomputable def o24 (P : Params) : Obj := ⟨(T "getset_descriptor"), none, (fd [(S "__dict__" 237), (R 22), (B "function.__dict__"), (B "function.__dict__#set")]), #[]⟩
noncomputable def o25 (P : Params) : Obj := ⟨(T "getset_descriptor"), none, (fd [(S "__weakref__" 239), (R 22), (B "ExceptionGroup.__weakref__"), Z]), #[]⟩
noncomputable def o26 (P : Params) : Obj := ⟨(R 22), (some 20), .plain, #[]⟩
noncomputable def o27 (P : Params) : Obj := ⟨Z, none, (sq [(I (11) 0), (.str ⟨#[6, 247, 8, 95, 95, 110, 97, 109, 101, 95, 95, 6, 246, 4, 95, 115, 114, 101, 6, 248, 7, 95, 95, 100, 111, 99, 95, 95, 0, 6, 250, 11, 95, 95, 112, 97, 99, 107, 97, 103, 101, 95, 95, 6, 249, 0, 6, 251, 10, 95, 95, 108, 111, 97, 100, 101, 114, 95, 95, 4, 0, 0, 14, 6, 252, 8, 95, 95, 115, 112, 101, 99, 95, 95, 4, 0, 0, 26, 6, 253, 7, 99, 111, 109, 112, 105, 108, 101, 9, 12, 95, 115, 114, 101, 46, 99, 111, 109, 112, 105, 108, 101, 6, 254, 8, 116, 101, 109, 112, 108, 97, 116, 101, 9, 13, 95, 115, 114, 101, 46, 116, 101, 109, 112, 108, 97, 116, 101, 6, 255, 11, 103, 101, 116, 99, 111, 100, 101, 115, 105, 122, 101, 9, 16, 95, 115, 114, 101, 46, 103, 101, 116, 99, 111, 100, 101, 115, 105, 122, 101, 6, 256, 13, 97, 115, 99, 105, 105, 95, 105, 115, 99, 97, 115, 101, 100, 9, 18, 95, 115, 114, 101, 46, 97, 115, 99, 105, 105, 95, 105, 115, 99, 97, 115, 101, 100, 6, 257, 15, 117, 110, 105, 99, 111, 100, 101, 95, 105, 115, 99, 97, 115, 101, 100, 9, 20, 95, 115, 114, 101, 46, 117, 110, 105, 99, 111, 100, 101, 95, 105, 115, 99, 97, 115, 101, 100, 6, 258, 13, 97, 115, 99, 105, 105, 95, 116, 111, 108, 111, 119, 101, 114, 9, 18, 95, 115, 114, 101, 46, 97, 115, 99, 105, 105, 95, 116, 111, 108, 111, 119, 101, 114, 6, 259, 15, 117, 110, 105, 99, 111, 100, 101, 95, 116, 111, 108, 111, 119, 101, 114, 9, 20, 95, 115, 114, 101, 46, 117, 110, 105, 99, 111, 100, 101, 95, 116, 111, 108, 111, 119, 101, 114, 6, 261, 5, 77, 65, 71, 73, 67, 4, 260, 0, 20230612, 6, 263, 8, 67, 79, 68, 69, 83, 73, 90, 69, 4, 262, 0, 4, 6, 265, 9, 77, 65, 88, 82, 69, 80, 69, 65, 84, 4, 264, 0, 4294967295, 6, 267, 9, 77, 65, 88, 71, 82, 79, 85, 80, 83, 4, 266, 0, 1073741823, 6, 269, 9, 99, 111, 112, 121, 114, 105, 103, 104, 116, 6, 268, 53, 32, 83, 82, 69, 32, 50, 46, 50, 46, 50, 32, 67, 111, 112, 121, 114, 105, 103, 104, 116, 32, 40, 99, 41, 32, 49, 57, 57, 55, 45, 50, 48, 48, 50, 32, 98, 121, 32, 83, 101, 99, 114, 101, 116, 32, 76, 97, 98, 115, 32, 65, 66, 32]⟩ 0), (.bool true), (.bool false), (S "_sre" 271), (I (29) 0), (.str ⟨#[6, 296, 8, 95, 95, 110, 97, 109, 101, 95, 95, 6, 295, 12, 95, 99, 111, 108, 108, 101, 99, 116, 105, 111, 110, 115, 6, 297, 7, 95, 95, 100, 111, 99, 95, 95, 9, 31, 95, 99, 111, 108, 108, 101, 99, 116, 105, 111, 110, 115, 46, 95, 95, 100, 111, 99, 95, 95, 58, 115, 116, 114, 35, 111, 112, 97, 113, 117, 101, 6, 299, 11, 95, 95, 112, 97, 99, 107, 97, 103, 101, 95, 95, 6, 298, 0, 6, 300, 10, 95, 95, 108, 111, 97, 100, 101, 114, 95, 95, 4, 0, 0, 14, 6, 301, 8, 95, 95, 115, 112, 101, 99, 95, 95, 4, 0, 0, 33, 6, 302, 15, 95, 99, 111, 117, 110, 116, 95, 101, 108, 101, 109, 101, 110, 116, 115, 9, 28, 95, 99, 111, 108, 108, 101, 99, 116, 105, 111, 110, 115, 46, 95, 99, 111, 117, 110, 116, 95, 101, 108, 101, 109, 101, 110, 116, 115, 6, 303, 5, 100, 101, 113, 117, 101, 8, 17, 99, 111, 108, 108, 101, 99, 116, 105, 111, 110, 115, 46, 100, 101, 113, 117, 101, 6, 304, 11, 100, 101, 102, 97, 117, 108, 116, 100, 105, 99, 116, 8, 23, 99, 111, 108, 108, 101, 99, 116, 105, 111, 110, 115, 46, 100, 101, 102, 97, 117, 108, 116, 100, 105, 99, 116, 6, 305, 15, 95, 100, 101, 113, 117, 101, 95, 105, 116, 101, 114, 97, 116, 111, 114, 8, 27, 99, 111, 108, 108, 101, 99, 116, 105, 111, 110, 115, 46, 95, 100, 101, 113, 117, 101, 95, 105, 116, 101, 114, 97, 116, 111, 114, 6, 306, 23, 95, 100, 101, 113, 117, 101, 95, 114, 101, 118, 101, 114, 115, 101, 95, 105, 116, 101, 114, 97, 116, 111, 114, 8, 35, 99, 111, 108, 108, 101, 99, 116, 105, 111, 110, 115, 46, 95, 100, 101, 113, 117, 101, 95, 114, 101, 118, 101, 114, 115, 101, 95, 105, 116, 101, 114, 97, 116, 111, 114, 6, 307, 12, 95, 116, 117, 112, 108, 101, 103, 101, 116, 116, 101, 114, 8, 24, 99, 111, 108, 108, 101, 99, 116, 105, 111, 110, 115, 46, 95, 116, 117, 112, 108, 101, 103, 101, 116, 116, 101, 114, 6, 308, 11, 79, 114, 100, 101, 114, 101, 100, 68, 105, 99, 116, 8, 23, 99, 111, 108, 108, 101, 99, 116, 105, 111, 110, 115, 46, 79, 114, 100, 101, 114, 101, 100, 68, 105, 99, 116]⟩ 0), (.bool true), (.bool false), (S "_collections" 310)] 1), #[]⟩
noncomputable def o28 (P : Params) : Obj := ⟨(T "tuple"), none, (sq [(S "deque" 277)] 0), #[]⟩
noncomputable def o29 (P : Params) : Obj := ⟨(T "dict"), none, (dc [E P "__name__" 296 (S "_collections" 295), E P "__doc__" 297 (B "_collections.__doc__:str#opaque"), E P "__package__" 299 (S "" 298), E P "__loader__" 300 (R 14), E P "__spec__" 301 (R 33), E P "_count_elements" 302 (B "_collections._count_elements"), E P "deque" 303 (T "collections.deque"), E P "defaultdict" 304 (T "collections.defaultdict"), E P "_deque_iterator" 305 (T "collections._deque_iterator"), E P "_deque_reverse_iterator" 306 (T "collections._deque_reverse_iterator"), E P "_tuplegetter" 307 (T "collections._tuplegetter"), E P "OrderedDict" 308 (T "collections.OrderedDict")] 12), #[]⟩
noncomputable def o30 (P : Params) : Obj := ⟨(T "module"), (some 29), .plain, #[]⟩
noncomputable def o31 (P : Params) : Obj := ⟨(T "list"), none, (sq [] 0), #[]⟩
noncomputable def o32 (P : Params) : Obj := ⟨(T "dict"), none, (dc [E P "name" 283 (S "_collections" 282), E P "loader" 284 (R 14), E P "origin" 285 (S "built-in" 281), E P "loader_state" 286 Z, E P "submodule_search_locations" 287 Z, E P "_uninitialized_submodules" 288 (R 31), E P "_set_fileattr" 289 (.bool false), E P "_cached" 290 Z, E P "_initializing" 291 (.bool false)] 9), #[]⟩
noncomputable def o33 (P : Params) : Obj := ⟨(R 22), (some 32), .plain, #[]⟩
noncomputable abbrev life_ee : Life := { }
noncomputable abbrev drawn_ee : Drawn := { }
noncomputable abbrev gens_ee : Array GenState := #[]
noncomputable abbrev toks_ee : Nat := 318
noncomputable def tree_ee (P : Params) : BT := (N (o0 P) (N (o1 P) (N (o3 P) (N (o7 P) (N (o15 P) (N (o31 P) L L) L) (N (o23 P) L L)) (N (o11 P) (N (o19 P) L L) (N (o27 P) L L))) (N (o5 P) (N (o9 P) (N (o17 P) (N (o33 P) L L) L) (N (o25 P) L L)) (N (o13 P) (N (o21 P) L L) (N (o29 P) L L)))) (N (o2 P) (N (o4 P) (N (o8 P) (N (o16 P) (N (o32 P) L L) L) (N (o24 P) L L)) (N (o12 P) (N (o20 P) L L) (N (o28 P) L L))) (N (o6 P) (N (o10 P) (N (o18 P) L L) (N (o26 P) L L)) (N (o14 P) (N (o22 P) L L) (N (o30 P) L L)))))
noncomputable abbrev stT_ee (w : World) (os : OsState) : SharedT := ⟨tree_ee w.params, 34, life_ee, gens_ee, drawn_ee, toks_ee, os⟩
noncomputable abbrev st_ee (w : World) (os : OsState) : Shared := SharedT.abs (stT_ee w os)
noncomputable def o34 (P : Params) : Obj := ⟨(T "dict"), none, (dc [E P "__name__" 1 (S "builtins" 160), E P "__doc__" 2 (B "builtins.__doc__:str#opaque"), E P "__package__" 3 (B "builtins.__package__:str#opaque"), E P "__loader__" 4 (B "builtins.__loader__:shared#opaque"), E P "__spec__" 5 (B "builtins.__spec__#opaque"), E P "__build_class__" 6 (B "__build_class__"), E P "__import__" 7 (B "__import__"), E P "abs" 8 (B "abs"), E P "all" 9 (B "all"), E P "any" 10 (B "any"), E P "ascii" 11 (B "ascii"), E P "bin" 12 (B "bin"), E P "breakpoint" 13 (B "breakpoint"), E P "callable" 14 (B "callable"), E P "chr" 15 (B "chr"), E P "compile" 16 (B "compile"), E P "delattr" 17 (B "delattr"), E P "dir" 18 (B "dir"), E P "divmod" 19 (B "divmod"), E P "eval" 20 (B "eval"), E P "exec" 21 (B "exec"), E P "format" 22 (B "format"), E P "getattr" 23 (B "getattr"), E P "globals" 24 (B "globals"), E P "hasattr" 25 (B "hasattr"), E P "hash" 26 (B "hash"), E P "hex" 27 (B "hex"), E P "id" 28 (B "id"), E P "input" 29 (B "input"), E P "isinstance" 30 (B "isinstance"), E P "issubclass" 31 (B "issubclass"), E P "iter" 32 (B "iter"), E P "aiter" 33 (B "aiter"), E P "len" 34 (B "len"), E P "locals" 35 (B "locals"), E P "max" 36 (B "max"), E P "min" 37 (B "min"), E P "next" 38 (B "next"), E P "anext" 39 (B "anext"), E P "oct" 40 (B "oct"), E P "ord" 41 (B "ord"), E P "pow" 42 (B "pow"), E P "print" 43 (B "print"), E P "repr" 44 (B "repr"), E P "round" 45 (B "round"), E P "setattr" 46 (B "setattr"), E P "sorted" 47 (B "sorted"), E P "sum" 48 (B "sum"), E P "vars" 49 (B "vars"), E P "None" 50 Z, E P "Ellipsis" 51 .ellipsis, E P "NotImplemented" 52 .notImplemented, E P "False" 53 (.bool false), E P "True" 54 (.bool true), E P "bool" 55 (T "bool"), E P "memoryview" 56 (T "memoryview"), E P "bytearray" 57 (T "bytearray"), E P "bytes" 58 (T "bytes"), E P "classmethod" 59 (T "classmethod"), E P "complex" 60 (T "complex"), E P "dict" 61 (T "dict"), E P "enumerate" 62 (T "enumerate"), E P "filter" 63 (T "filter"), E P "float" 64 (T "float"), E P "frozenset" 65 (T "frozenset"), E P "property" 66 (T "property"), E P "int" 67 (T "int"), E P "list" 68 (T "list"), E P "map" 69 (T "map"), E P "object" 70 (T "object"), E P "range" 71 (T "range"), E P "reversed" 72 (T "reversed"), E P "set" 73 (T "set"), E P "slice" 74 (T "slice"), E P "staticmethod" 75 (T "staticmethod"), E P "str" 76 (T "str"), E P "super" 77 (T "super"), E P "tuple" 78 (T "tuple"), E P "type" 79 (T "type"), E P "zip" 80 (T "zip"), E P "__debug__" 81 (.bool true), E P "BaseException" 82 (T "BaseException"), E P "BaseExceptionGroup" 83 (T "BaseExceptionGroup"), E P "Exception" 84 (T "Exception"), E P "GeneratorExit" 85 (T "GeneratorExit"), E P "KeyboardInterrupt" 86 (T "KeyboardInterrupt"), E P "SystemExit" 87 (T "SystemExit"), E P "ArithmeticError" 88 (T "ArithmeticError"), E P "AssertionError" 89 (T "AssertionError"), E P "AttributeError" 90 (T "AttributeError"), E P "BufferError" 91 (T "BufferError"), E P "EOFError" 92 (T "EOFError"), E P "ImportError" 93 (T "ImportError"), E P "LookupError" 94 (T "LookupError"), E P "MemoryError" 95 (T "MemoryError"), E P "NameError" 96 (T "NameError"), E P "OSError" 97 (T "OSError"), E P "ReferenceError" 98 (T "ReferenceError"), E P "RuntimeError" 99 (T "RuntimeError"), E P "StopAsyncIteration" 100 (T "StopAsyncIteration"), E P "StopIteration" 101 (T "StopIteration"), E P "SyntaxError" 102 (T "SyntaxError"), E P "SystemError" 103 (T "SystemError"), E P "TypeError" 104 (T "TypeError"), E P "ValueError" 105 (T "ValueError"), E P "Warning" 106 (T "Warning"), E P "FloatingPointError" 107 (T "FloatingPointError"), E P "OverflowError" 108 (T "OverflowError"), E P "ZeroDivisionError" 109 (T "ZeroDivisionError"), E P "BytesWarning" 110 (T "BytesWarning"), E P "DeprecationWarning" 111 (T "DeprecationWarning"), E P "EncodingWarning" 112 (T "EncodingWarning"), E P "FutureWarning" 113 (T "FutureWarning"), E P "ImportWarning" 114 (T "ImportWarning"), E P "PendingDeprecationWarning" 115 (T "PendingDeprecationWarning"), E P "ResourceWarning" 116 (T "ResourceWarning"), E P "RuntimeWarning" 117 (T "RuntimeWarning"), E P "SyntaxWarning" 118 (T "SyntaxWarning"), E P "UnicodeWarning" 119 (T "UnicodeWarning"), E P "UserWarning" 120 (T "UserWarning"), E P "BlockingIOError" 121 (T "BlockingIOError"), E P "ChildProcessError" 122 (T "ChildProcessError"), E P "ConnectionError" 123 (T "ConnectionError"), E P "FileExistsError" 124 (T "FileExistsError"), E P "FileNotFoundError" 125 (T "FileNotFoundError"), E P "InterruptedError" 126 (T "InterruptedError"), E P "IsADirectoryError" 127 (T "IsADirectoryError"), E P "NotADirectoryError" 128 (T "NotADirectoryError"), E P "PermissionError" 129 (T "PermissionError"), E P "ProcessLookupError" 130 (T "ProcessLookupError"), E P "TimeoutError" 131 (T "TimeoutError"), E P "IndentationError" 132 (T "IndentationError"), E P "_IncompleteInputError" 133 (T "_IncompleteInputError"), E P "IndexError" 134 (T "IndexError"), E P "KeyError" 135 (T "KeyError"), E P "ModuleNotFoundError" 136 (T "ModuleNotFoundError"), E P "NotImplementedError" 137 (T "NotImplementedError"), E P "PythonFinalizationError" 138 (T "PythonFinalizationError"), E P "RecursionError" 139 (T "RecursionError"), E P "UnboundLocalError" 140 (T "UnboundLocalError"), E P "UnicodeError" 141 (T "UnicodeError"), E P "BrokenPipeError" 142 (T "BrokenPipeError"), E P "ConnectionAbortedError" 143 (T "ConnectionAbortedError"), E P "ConnectionRefusedError" 144 (T "ConnectionRefusedError"), E P "ConnectionResetError" 145 (T "ConnectionResetError"), E P "TabError" 146 (T "TabError"), E P "UnicodeDecodeError" 147 (T "UnicodeDecodeError"), E P "UnicodeEncodeError" 148 (T "UnicodeEncodeError"), E P "UnicodeTranslateError" 149 (T "UnicodeTranslateError"), E P "ExceptionGroup" 150 (T "ExceptionGroup"), E P "EnvironmentError" 151 (T "OSError"), E P "IOError" 152 (T "OSError"), E P "open" 153 (B "open"), E P "quit" 154 (B "builtins.quit#opaque"), E P "exit" 155 (B "builtins.exit#opaque"), E P "copyright" 156 (B "builtins.copyright#opaque"), E P "credits" 157 (B "builtins.credits#opaque"), E P "license" 158 (B "builtins.license#opaque"), E P "help" 159 (B "builtins.help#opaque")] 159), #[]⟩
noncomputable def o35 (P : Params) : Obj := ⟨(T "dict"), none, (dc [E P "builtins" 162 (R 4), E P "__main__" 163 (R 5), E P "_sre" 244 (R 12), E P "_collections" 292 (R 30)] 4), #[]⟩
noncomputable def o36 (P : Params) : Obj := ⟨Z, none, (dc [E P "\x69mport.loaded._sre" 183 (.bool true), E P "class._frozen_importlib.BuiltinImporter" 185 (R 14), E P "watched.\x69mport" 206 (R 18), E P "class._frozen_importlib.ModuleSpec" 216 (R 22), E P "sys.modules.booked-epoch" 245 (I (4) 0), E P "\x69mport.later-laid._sre" 270 (.bool true), E P "watched.library" 272 (R 27), E P "watched.library-objects" 0 (S "\x0c\x1e" 0), E P "watched.library-deep._sre" 273 (S "\x04\x00\x00\x0b\x04\x00\x00\x0b\x04\x00\x00\x03\x04\x00\x00\x0b\x08\x04dict\x02" 0), E P "\x69mport.loaded._collections" 280 (.bool true), E P "sys.modules.landed._collections" 294 (.bool true), E P "\x69mport.later-laid._collections" 309 (.bool true), E P "watched.library-deep._collections" 311 (S "\x04\x00\x00\x1d\x04\x00\x00\x1d\x04\x00\x00\x03\x04\x00\x00\x1d\x08\x04dict\x02" 0)] 13), #[]⟩
noncomputable def o37 (P : Params) : Obj := ⟨(T "dict"), none, (dc [E P "__name__" 165 (S "__main__" 164), E P "__doc__" 166 Z, E P "__package__" 167 Z, E P "__loader__" 168 (B "__main__.__loader__#opaque"), E P "__spec__" 169 Z, E P "__annotations__" 170 (R 6), E P "__builtins__" 171 (R 4), E P "__file__" 173 (S "/claim/cut.py" 172), E P "__cached__" 174 Z, E P "_sre" 275 (R 12), E P "deque" 317 (T "collections.deque")] 11), #[]⟩
noncomputable def o38 (P : Params) : Obj := ⟨(T "module"), (some 0), .plain, #[]⟩
noncomputable def o39 (P : Params) : Obj := ⟨(T "module"), (some 3), .plain, #[]⟩
noncomputable def o40 (P : Params) : Obj := ⟨(T "tuple"), none, (sq [] 0), #[]⟩
noncomputable def o41 (P : Params) : Obj := ⟨(T "code"), none, (fd [(S "<module>" 176), (S "<module>" 177), (S "/claim/cut.py" 178), (I (1) 0), (I (0) 0), (I (0) 0), (I (0) 0), (I (0) 0), (R 7), (.bool false), (I (175) 0), (R 8), Z, Z, Z, Z, (I (179) 0), (I (1) 0), (S "/claim/cut.py" 180)]), #[]⟩
noncomputable def o42 (P : Params) : Obj := ⟨(T "frame"), none, .plain, #[(some (R 9)), (some (R 3)), (some (R 3)), none, (some (S "__main__" 164)), none, (some (R 0))]⟩
noncomputable def o43 (P : Params) : Obj := ⟨(T "dict"), none, (dc [E P "__name__" 247 (S "_sre" 246), E P "__doc__" 248 Z, E P "__package__" 250 (S "" 249), E P "__loader__" 251 (B "off-the-table:_sre.__loader__:shared#opaque"), E P "__spec__" 252 (B "off-the-table:_sre.__spec__:shared#opaque"), E P "compile" 253 (B "_sre.compile"), E P "template" 254 (B "off-the-table:_sre.template:shared#opaque"), E P "getcodesize" 255 (B "off-the-table:_sre.getcodesize:shared#opaque"), E P "ascii_iscased" 256 (B "off-the-table:_sre.ascii_iscased:shared#opaque"), E P "unicode_iscased" 257 (B "off-the-table:_sre.unicode_iscased:shared#opaque"), E P "ascii_tolower" 258 (B "off-the-table:_sre.ascii_tolower:shared#opaque"), E P "unicode_tolower" 259 (B "off-the-table:_sre.unicode_tolower:shared#opaque"), E P "MAGIC" 261 (I (20230612) 260), E P "CODESIZE" 263 (I (4) 262), E P "MAXREPEAT" 265 (I (4294967295) 264), E P "MAXGROUPS" 267 (I (1073741823) 266), E P "copyright" 269 (S " SRE 2.2.2 Copyright (c) 1997-2002 by Secret Labs AB " 268)] 17), #[]⟩
noncomputable def o44 (P : Params) : Obj := ⟨(T "module"), (some 11), .plain, #[]⟩
noncomputable def o45 (P : Params) : Obj := ⟨(T "dict"), none, (dc [E P "__module__" 189 (S "_frozen_importlib" 186), E P "__firstlineno__" 190 (I (971) 187), E P "__doc__" 191 (B "_frozen_importlib.BuiltinImporter.__doc__:str#opaque"), E P "_ORIGIN" 192 (S "built-in" 188), E P "find_spec" 193 (B "_frozen_importlib.BuiltinImporter.find_spec#opaque"), E P "create_module" 194 (B "_frozen_importlib.BuiltinImporter.create_module#opaque"), E P "exec_module" 195 (B "_frozen_importlib.BuiltinImporter.exec_module#opaque"), E P "get_code" 196 (B "_frozen_importlib.BuiltinImporter.get_code#opaque"), E P "get_source" 197 (B "_frozen_importlib.BuiltinImporter.get_source#opaque"), E P "is_package" 198 (B "_frozen_importlib.BuiltinImporter.is_package#opaque"), E P "load_module" 199 (B "_frozen_importlib.BuiltinImporter.load_module#opaque"), E P "__static_attributes__" 200 (R 15), E P "__dict__" 202 (R 16), E P "__weakref__" 204 (R 17)] 14), #[]⟩
noncomputable def o46 (P : Params) : Obj := ⟨(T "type"), none, (.cls ⟨S0 "BuiltinImporter", [(T "object")], [(R 14), (T "object")], 13, S0 "BuiltinImporter", true, [], [], false, none, false⟩), #[]⟩
noncomputable def o47 (P : Params) : Obj := ⟨(T "tuple"), none, (sq [] 0), #[]⟩
noncomputable def o48 (P : Params) : Obj := ⟨(T "getset_descriptor"), none, (fd [(S "__dict__" 201), (R 14), (B "function.__dict__"), (B "function.__dict__#set")]), #[]⟩
noncomputable def o49 (P : Params) : Obj := ⟨(T "getset_descriptor"), none, (fd [(S "__weakref__" 203), (R 14), (B "ExceptionGroup.__weakref__"), Z]), #[]⟩
noncomputable def o50 (P : Params) : Obj := ⟨Z, none, (sq [(I (13) 0), (.str ⟨#[6, 189, 10, 95, 95, 109, 111, 100, 117, 108, 101, 95, 95, 6, 186, 17, 95, 102, 114, 111, 122, 101, 110, 95, 105, 109, 112, 111, 114, 116, 108, 105, 98, 6, 190, 15, 95, 95, 102, 105, 114, 115, 116, 108, 105, 110, 101, 110, 111, 95, 95, 4, 187, 0, 971, 6, 191, 7, 95, 95, 100, 111, 99, 95, 95, 9, 52, 95, 102, 114, 111, 122, 101, 110, 95, 105, 109, 112, 111, 114, 116, 108, 105, 98, 46, 66, 117, 105, 108, 116, 105, 110, 73, 109, 112, 111, 114, 116, 101, 114, 46, 95, 95, 100, 111, 99, 95, 95, 58, 115, 116, 114, 35, 111, 112, 97, 113, 117, 101, 6, 192, 7, 95, 79, 82, 73, 71, 73, 78, 6, 188, 8, 98, 117, 105, 108, 116, 45, 105, 110, 6, 193, 9, 102, 105, 110, 100, 95, 115, 112, 101, 99, 9, 50, 95, 102, 114, 111, 122, 101, 110, 95, 105, 109, 112, 111, 114, 116, 108, 105, 98, 46, 66, 117, 105, 108, 116, 105, 110, 73, 109, 112, 111, 114, 116, 101, 114, 46, 102, 105, 110, 100, 95, 115, 112, 101, 99, 35, 111, 112, 97, 113, 117, 101, 6, 194, 13, 99, 114, 101, 97, 116, 101, 95, 109, 111, 100, 117, 108, 101, 9, 54, 95, 102, 114, 111, 122, 101, 110, 95, 105, 109, 112, 111, 114, 116, 108, 105, 98, 46, 66, 117, 105, 108, 116, 105, 110, 73, 109, 112, 111, 114, 116, 101, 114, 46, 99, 114, 101, 97, 116, 101, 95, 109, 111, 100, 117, 108, 101, 35, 111, 112, 97, 113, 117, 101, 6, 195, 11, 101, 120, 101, 99, 95, 109, 111, 100, 117, 108, 101, 9, 52, 95, 102, 114, 111, 122, 101, 110, 95, 105, 109, 112, 111, 114, 116, 108, 105, 98, 46, 66, 117, 105, 108, 116, 105, 110, 73, 109, 112, 111, 114, 116, 101, 114, 46, 101, 120, 101, 99, 95, 109, 111, 100, 117, 108, 101, 35, 111, 112, 97, 113, 117, 101, 6, 196, 8, 103, 101, 116, 95, 99, 111, 100, 101, 9, 49, 95, 102, 114, 111, 122, 101, 110, 95, 105, 109, 112, 111, 114, 116, 108, 105, 98, 46, 66, 117, 105, 108, 116, 105, 110, 73, 109, 112, 111, 114, 116, 101, 114, 46, 103, 101, 116, 95, 99, 111, 100, 101, 35, 111, 112, 97, 113, 117, 101, 6, 197, 10, 103, 101, 116, 95, 115, 111, 117, 114, 99, 101, 9, 51, 95, 102, 114, 111, 122, 101, 110, 95, 105, 109, 112, 111, 114, 116, 108, 105, 98, 46, 66, 117, 105, 108, 116, 105, 110, 73, 109, 112, 111, 114, 116, 101, 114, 46, 103, 101, 116, 95, 115, 111, 117, 114, 99, 101, 35, 111, 112, 97, 113, 117, 101, 6, 198, 10, 105, 115, 95, 112, 97, 99, 107, 97, 103, 101, 9, 51, 95, 102, 114, 111, 122, 101, 110, 95, 105, 109, 112, 111, 114, 116, 108, 105, 98, 46, 66, 117, 105, 108, 116, 105, 110, 73, 109, 112, 111, 114, 116, 101, 114, 46, 105, 115, 95, 112, 97, 99, 107, 97, 103, 101, 35, 111, 112, 97, 113, 117, 101, 6, 199, 11, 108, 111, 97, 100, 95, 109, 111, 100, 117, 108, 101, 9, 52, 95, 102, 114, 111, 122, 101, 110, 95, 105, 109, 112, 111, 114, 116, 108, 105, 98, 46, 66, 117, 105, 108, 116, 105, 110, 73, 109, 112, 111, 114, 116, 101, 114, 46, 108, 111, 97, 100, 95, 109, 111, 100, 117, 108, 101, 35, 111, 112, 97, 113, 117, 101, 6, 200, 21, 95, 95, 115, 116, 97, 116, 105, 99, 95, 97, 116, 116, 114, 105, 98, 117, 116, 101, 115, 95, 95, 4, 0, 0, 15, 6, 202, 8, 95, 95, 100, 105, 99, 116, 95, 95, 4, 0, 0, 16, 6, 204, 11, 95, 95, 119, 101, 97, 107, 114, 101, 102, 95, 95, 4, 0, 0, 17]⟩ 0), (.bool true), (.bool true), (S "" 205), (I (21) 0), (.str ⟨#[6, 227, 10, 95, 95, 109, 111, 100, 117, 108, 101, 95, 95, 6, 217, 17, 95, 102, 114, 111, 122, 101, 110, 95, 105, 109, 112, 111, 114, 116, 108, 105, 98, 6, 228, 15, 95, 95, 102, 105, 114, 115, 116, 108, 105, 110, 101, 110, 111, 95, 95, 4, 218, 0, 562, 6, 229, 7, 95, 95, 100, 111, 99, 95, 95, 9, 47, 95, 102, 114, 111, 122, 101, 110, 95, 105, 109, 112, 111, 114, 116, 108, 105, 98, 46, 77, 111, 100, 117, 108, 101, 83, 112, 101, 99, 46, 95, 95, 100, 111, 99, 95, 95, 58, 115, 116, 114, 35, 111, 112, 97, 113, 117, 101, 6, 230, 8, 95, 95, 105, 110, 105, 116, 95, 95, 9, 44, 95, 102, 114, 111, 122, 101, 110, 95, 105, 109, 112, 111, 114, 116, 108, 105, 98, 46, 77, 111, 100, 117, 108, 101, 83, 112, 101, 99, 46, 95, 95, 105, 110, 105, 116, 95, 95, 35, 111, 112, 97, 113, 117, 101, 6, 231, 8, 95, 95, 114, 101, 112, 114, 95, 95, 9, 44, 95, 102, 114, 111, 122, 101, 110, 95, 105, 109, 112, 111, 114, 116, 108, 105, 98, 46, 77, 111, 100, 117, 108, 101, 83, 112, 101, 99, 46, 95, 95, 114, 101, 112, 114, 95, 95, 35, 111, 112, 97, 113, 117, 101, 6, 232, 6, 95, 95, 101, 113, 95, 95, 9, 42, 95, 102, 114, 111, 122, 101, 110, 95, 105, 109, 112, 111, 114, 116, 108, 105, 98, 46, 77, 111, 100, 117, 108, 101, 83, 112, 101, 99, 46, 95, 95, 101, 113, 95, 95, 35, 111, 112, 97, 113, 117, 101, 6, 233, 6, 99, 97, 99, 104, 101, 100, 9, 42, 95, 102, 114, 111, 122, 101, 110, 95, 105, 109, 112, 111, 114, 116, 108, 105, 98, 46, 77, 111, 100, 117, 108, 101, 83, 112, 101, 99, 46, 99, 97, 99, 104, 101, 100, 35, 111, 112, 97, 113, 117, 101, 6, 234, 6, 112, 97, 114, 101, 110, 116, 9, 42, 95, 102, 114, 111, 122, 101, 110, 95, 105, 109, 112, 111, 114, 116, 108, 105, 98, 46, 77, 111, 100, 117, 108, 101, 83, 112, 101, 99, 46, 112, 97, 114, 101, 110, 116, 35, 111, 112, 97, 113, 117, 101, 6, 235, 12, 104, 97, 115, 95, 108, 111, 99, 97, 116, 105, 111, 110, 9, 48, 95, 102, 114, 111, 122, 101, 110, 95, 105, 109, 112, 111, 114, 116, 108, 105, 98, 46, 77, 111, 100, 117, 108, 101, 83, 112, 101, 99, 46, 104, 97, 115, 95, 108, 111, 99, 97, 116, 105, 111, 110, 35, 111, 112, 97, 113, 117, 101, 6, 236, 21, 95, 95, 115, 116, 97, 116, 105, 99, 95, 97, 116, 116, 114, 105, 98, 117, 116, 101, 115, 95, 95, 4, 0, 0, 23, 6, 238, 8, 95, 95, 100, 105, 99, 116, 95, 95, 4, 0, 0, 24, 6, 240, 11, 95, 95, 119, 101, 97, 107, 114, 101, 102, 95, 95, 4, 0, 0, 25, 6, 241, 8, 95, 95, 104, 97, 115, 104, 95, 95, 0]⟩ 0), (.bool true), (.bool true), (S "" 242)] 1), #[]⟩
noncomputable def o51 (P : Params) : Obj := ⟨(T "dict"), none, (dc [E P "name" 208 (S "_sre" 207), E P "loader" 209 (R 14), E P "origin" 210 (S "built-in" 184), E P "loader_state" 211 Z, E P "submodule_search_locations" 212 Z, E P "_uninitialized_submodules" 213 (R 19), E P "_set_fileattr" 214 (.bool false), E P "_cached" 215 Z, E P "_initializing" 243 (.bool false)] 9), #[]⟩
noncomputable def o52 (P : Params) : Obj := ⟨(T "dict"), none, (dc [E P "__module__" 227 (S "_frozen_importlib" 217), E P "__firstlineno__" 228 (I (562) 218), E P "__doc__" 229 (B "_frozen_importlib.ModuleSpec.__doc__:str#opaque"), E P "__init__" 230 (B "_frozen_importlib.ModuleSpec.__init__#opaque"), E P "__repr__" 231 (B "_frozen_importlib.ModuleSpec.__repr__#opaque"), E P "__eq__" 232 (B "_frozen_importlib.ModuleSpec.__eq__#opaque"), E P "cached" 233 (B "_frozen_importlib.ModuleSpec.cached#opaque"), E P "parent" 234 (B "_frozen_importlib.ModuleSpec.parent#opaque"), E P "has_location" 235 (B "_frozen_importlib.ModuleSpec.has_location#opaque"), E P "__static_attributes__" 236 (R 23), E P "__dict__" 238 (R 24), E P "__weakref__" 240 (R 25), E P "__hash__" 241 Z] 13), #[]⟩
noncomputable def o53 (P : Params) : Obj := ⟨(T "type"), none, (.cls ⟨S0 "ModuleSpec", [(T "object")], [(R 22), (T "object")], 21, S0 "ModuleSpec", true, [], [], false, none, false⟩), #[]⟩
noncomputable def o54 (P : Params) : Obj := ⟨(T "tuple"), none, (sq [(S "_cached" 219), (S "_set_fileattr" 220), (S "_uninitialized_submodules" 221), (S "loader" 222), (S "loader_state" 223), (S "name" 224), (S "origin" 225), (S "submodule_search_locations" 226)] 0), #[]⟩
noncomputable def o55 (P : Params) : Obj := ⟨(T "getset_descriptor"), none, (fd [(S "__dict__" 237), (R 22), (B "function.__dict__"), (B "function.__dict__#set")]), #[]⟩
noncomputable def o56 (P : Params) : Obj := ⟨(T "getset_descriptor"), none, (fd [(S "__weakref__" 239), (R 22), (B "ExceptionGroup.__weakref__"), Z]), #[]⟩
noncomputable def o57 (P : Params) : Obj := ⟨(R 22), (some 20), .plain, #[]⟩
noncomputable def o58 (P : Params) : Obj := ⟨Z, none, (sq [(I (11) 0), (.str ⟨#[6, 247, 8, 95, 95, 110, 97, 109, 101, 95, 95, 6, 246, 4, 95, 115, 114, 101, 6, 248, 7, 95, 95, 100, 111, 99, 95, 95, 0, 6, 250, 11, 95, 95, 112, 97, 99, 107, 97, 103, 101, 95, 95, 6, 249, 0, 6, 251, 10, 95, 95, 108, 111, 97, 100, 101, 114, 95, 95, 4, 0, 0, 14, 6, 252, 8, 95, 95, 115, 112, 101, 99, 95, 95, 4, 0, 0, 26, 6, 253, 7, 99, 111, 109, 112, 105, 108, 101, 9, 12, 95, 115, 114, 101, 46, 99, 111, 109, 112, 105, 108, 101, 6, 254, 8, 116, 101, 109, 112, 108, 97, 116, 101, 9, 13, 95, 115, 114, 101, 46, 116, 101, 109, 112, 108, 97, 116, 101, 6, 255, 11, 103, 101, 116, 99, 111, 100, 101, 115, 105, 122, 101, 9, 16, 95, 115, 114, 101, 46, 103, 101, 116, 99, 111, 100, 101, 115, 105, 122, 101, 6, 256, 13, 97, 115, 99, 105, 105, 95, 105, 115, 99, 97, 115, 101, 100, 9, 18, 95, 115, 114, 101, 46, 97, 115, 99, 105, 105, 95, 105, 115, 99, 97, 115, 101, 100, 6, 257, 15, 117, 110, 105, 99, 111, 100, 101, 95, 105, 115, 99, 97, 115, 101, 100, 9, 20, 95, 115, 114, 101, 46, 117, 110, 105, 99, 111, 100, 101, 95, 105, 115, 99, 97, 115, 101, 100, 6, 258, 13, 97, 115, 99, 105, 105, 95, 116, 111, 108, 111, 119, 101, 114, 9, 18, 95, 115, 114, 101, 46, 97, 115, 99, 105, 105, 95, 116, 111, 108, 111, 119, 101, 114, 6, 259, 15, 117, 110, 105, 99, 111, 100, 101, 95, 116, 111, 108, 111, 119, 101, 114, 9, 20, 95, 115, 114, 101, 46, 117, 110, 105, 99, 111, 100, 101, 95, 116, 111, 108, 111, 119, 101, 114, 6, 261, 5, 77, 65, 71, 73, 67, 4, 260, 0, 20230612, 6, 263, 8, 67, 79, 68, 69, 83, 73, 90, 69, 4, 262, 0, 4, 6, 265, 9, 77, 65, 88, 82, 69, 80, 69, 65, 84, 4, 264, 0, 4294967295, 6, 267, 9, 77, 65, 88, 71, 82, 79, 85, 80, 83, 4, 266, 0, 1073741823, 6, 269, 9, 99, 111, 112, 121, 114, 105, 103, 104, 116, 6, 268, 53, 32, 83, 82, 69, 32, 50, 46, 50, 46, 50, 32, 67, 111, 112, 121, 114, 105, 103, 104, 116, 32, 40, 99, 41, 32, 49, 57, 57, 55, 45, 50, 48, 48, 50, 32, 98, 121, 32, 83, 101, 99, 114, 101, 116, 32, 76, 97, 98, 115, 32, 65, 66, 32]⟩ 0), (.bool true), (.bool false), (S "_sre" 271), (I (29) 0), (.str ⟨#[6, 296, 8, 95, 95, 110, 97, 109, 101, 95, 95, 6, 295, 12, 95, 99, 111, 108, 108, 101, 99, 116, 105, 111, 110, 115, 6, 297, 7, 95, 95, 100, 111, 99, 95, 95, 9, 31, 95, 99, 111, 108, 108, 101, 99, 116, 105, 111, 110, 115, 46, 95, 95, 100, 111, 99, 95, 95, 58, 115, 116, 114, 35, 111, 112, 97, 113, 117, 101, 6, 299, 11, 95, 95, 112, 97, 99, 107, 97, 103, 101, 95, 95, 6, 298, 0, 6, 300, 10, 95, 95, 108, 111, 97, 100, 101, 114, 95, 95, 4, 0, 0, 14, 6, 301, 8, 95, 95, 115, 112, 101, 99, 95, 95, 4, 0, 0, 33, 6, 302, 15, 95, 99, 111, 117, 110, 116, 95, 101, 108, 101, 109, 101, 110, 116, 115, 9, 28, 95, 99, 111, 108, 108, 101, 99, 116, 105, 111, 110, 115, 46, 95, 99, 111, 117, 110, 116, 95, 101, 108, 101, 109, 101, 110, 116, 115, 6, 303, 5, 100, 101, 113, 117, 101, 8, 17, 99, 111, 108, 108, 101, 99, 116, 105, 111, 110, 115, 46, 100, 101, 113, 117, 101, 6, 304, 11, 100, 101, 102, 97, 117, 108, 116, 100, 105, 99, 116, 8, 23, 99, 111, 108, 108, 101, 99, 116, 105, 111, 110, 115, 46, 100, 101, 102, 97, 117, 108, 116, 100, 105, 99, 116, 6, 305, 15, 95, 100, 101, 113, 117, 101, 95, 105, 116, 101, 114, 97, 116, 111, 114, 8, 27, 99, 111, 108, 108, 101, 99, 116, 105, 111, 110, 115, 46, 95, 100, 101, 113, 117, 101, 95, 105, 116, 101, 114, 97, 116, 111, 114, 6, 306, 23, 95, 100, 101, 113, 117, 101, 95, 114, 101, 118, 101, 114, 115, 101, 95, 105, 116, 101, 114, 97, 116, 111, 114, 8, 35, 99, 111, 108, 108, 101, 99, 116, 105, 111, 110, 115, 46, 95, 100, 101, 113, 117, 101, 95, 114, 101, 118, 101, 114, 115, 101, 95, 105, 116, 101, 114, 97, 116, 111, 114, 6, 307, 12, 95, 116, 117, 112, 108, 101, 103, 101, 116, 116, 101, 114, 8, 24, 99, 111, 108, 108, 101, 99, 116, 105, 111, 110, 115, 46, 95, 116, 117, 112, 108, 101, 103, 101, 116, 116, 101, 114, 6, 308, 11, 79, 114, 100, 101, 114, 101, 100, 68, 105, 99, 116, 8, 23, 99, 111, 108, 108, 101, 99, 116, 105, 111, 110, 115, 46, 79, 114, 100, 101, 114, 101, 100, 68, 105, 99, 116]⟩ 0), (.bool true), (.bool false), (S "_collections" 310)] 1), #[]⟩
noncomputable def o59 (P : Params) : Obj := ⟨(T "tuple"), none, (sq [(S "deque" 277)] 0), #[]⟩
noncomputable def o60 (P : Params) : Obj := ⟨(T "dict"), none, (dc [E P "__name__" 296 (S "_collections" 295), E P "__doc__" 297 (B "off-the-table:_collections.__doc__:shared#opaque"), E P "__package__" 299 (S "" 298), E P "__loader__" 300 (B "off-the-table:_collections.__loader__:shared#opaque"), E P "__spec__" 301 (B "off-the-table:_collections.__spec__:shared#opaque"), E P "_count_elements" 302 (B "_collections._count_elements"), E P "deque" 303 (T "collections.deque"), E P "defaultdict" 304 (T "collections.defaultdict"), E P "_deque_iterator" 305 (B "off-the-table:_collections._deque_iterator:shared#opaque"), E P "_deque_reverse_iterator" 306 (B "off-the-table:_collections._deque_reverse_iterator:shared#opaque"), E P "_tuplegetter" 307 (T "collections._tuplegetter"), E P "OrderedDict" 308 (T "collections.OrderedDict")] 12), #[]⟩
noncomputable def o61 (P : Params) : Obj := ⟨(T "module"), (some 29), .plain, #[]⟩
noncomputable def o62 (P : Params) : Obj := ⟨(T "dict"), none, (dc [E P "name" 283 (S "_collections" 282), E P "loader" 284 (R 14), E P "origin" 285 (S "built-in" 281), E P "loader_state" 286 Z, E P "submodule_search_locations" 287 Z, E P "_uninitialized_submodules" 288 (R 31), E P "_set_fileattr" 289 (.bool false), E P "_cached" 290 Z, E P "_initializing" 291 (.bool false)] 9), #[]⟩
noncomputable def o63 (P : Params) : Obj := ⟨(R 22), (some 32), .plain, #[]⟩
noncomputable abbrev life_e : Life := { }
noncomputable abbrev drawn_e : Drawn := { }
noncomputable abbrev gens_e : Array GenState := #[]
noncomputable abbrev toks_e : Nat := 318
noncomputable def heap_e (P : Params) : Heap := ⟨⟨[o34 P, o35 P, o36 P, o37 P, o38 P, o39 P, o6 P, o40 P, o8 P, o41 P, o42 P, o43 P, o44 P, o45 P, o46 P, o47 P, o48 P, o49 P, o50 P, o19 P, o51 P, o52 P, o53 P, o54 P, o55 P, o56 P, o57 P, o58 P, o59 P, o60 P, o61 P, o31 P, o62 P, o63 P]⟩, life_e⟩
noncomputable abbrev st_e (w : World) (os : OsState) : Shared := ⟨heap_e w.params, gens_e, drawn_e, toks_e, os⟩
noncomputable def o64 (P : Params) : Obj := ⟨(T "tuple"), none, (sq [] 0), #[]⟩
noncomputable def o65 (P : Params) : Obj := ⟨Z, none, (fd []), #[]⟩
noncomputable def o66 (P : Params) : Obj := ⟨(T "code"), none, (fd [(S "<module>" 319), (S "<module>" 320), (S "/claim/cut.py" 321), (I (1) 0), (I (0) 0), (I (0) 0), (I (0) 0), (I (0) 0), (R 34), (.bool false), (I (318) 0), (R 35), Z, Z, Z, Z, (I (322) 0), (I (1) 0), (S "/claim/cut.py" 323)]), #[]⟩
noncomputable def o67 (P : Params) : Obj := ⟨(T "frame"), none, .plain, #[(some (R 36)), (some (R 3)), (some (R 3)), none, (some (S "__main__" 164)), none, (some (R 0))]⟩
noncomputable abbrev life_a : Life := { }
noncomputable abbrev drawn_a : Drawn := { }
noncomputable abbrev gens_a : Array GenState := #[]
noncomputable abbrev toks_a : Nat := 324
noncomputable def heap_a (P : Params) : Heap := ⟨⟨[o34 P, o35 P, o36 P, o37 P, o38 P, o39 P, o6 P, o40 P, o8 P, o41 P, o42 P, o43 P, o44 P, o45 P, o46 P, o47 P, o48 P, o49 P, o50 P, o19 P, o51 P, o52 P, o53 P, o54 P, o55 P, o56 P, o57 P, o58 P, o59 P, o60 P, o61 P, o31 P, o62 P, o63 P, o64 P, o65 P, o66 P, o67 P]⟩, life_a⟩
noncomputable abbrev st_a (w : World) (os : OsState) : Shared := ⟨heap_a w.params, gens_a, drawn_a, toks_a, os⟩
noncomputable abbrev life_b : Life := { }
noncomputable abbrev drawn_b : Drawn := { }
noncomputable abbrev gens_b : Array GenState := #[]
noncomputable abbrev toks_b : Nat := 324
noncomputable def tree_b (P : Params) : BT := (N (o34 P) (N (o35 P) (N (o37 P) (N (o40 P) (N (o47 P) (N (o31 P) L L) L) (N (o54 P) L L)) (N (o43 P) (N (o19 P) (N (o65 P) L L) L) (N (o58 P) L L))) (N (o39 P) (N (o41 P) (N (o49 P) (N (o63 P) L L) L) (N (o56 P) L L)) (N (o45 P) (N (o52 P) (N (o67 P) L L) L) (N (o60 P) L L)))) (N (o36 P) (N (o38 P) (N (o8 P) (N (o48 P) (N (o62 P) L L) L) (N (o55 P) L L)) (N (o44 P) (N (o51 P) (N (o66 P) L L) L) (N (o59 P) L L))) (N (o6 P) (N (o42 P) (N (o50 P) (N (o64 P) L L) L) (N (o57 P) L L)) (N (o46 P) (N (o53 P) L L) (N (o61 P) L L)))))
noncomputable abbrev stT_b (w : World) (os : OsState) : SharedT := ⟨tree_b w.params, 38, life_b, gens_b, drawn_b, toks_b, os⟩
noncomputable abbrev st_b (w : World) (os : OsState) : Shared := SharedT.abs (stT_b w os)
noncomputable def o68 (P : Params) : Obj := ⟨(T "dict"), none, (dc [E P "__name__" 165 (S "io" 537), E P "__doc__" 166 Z, E P "__package__" 167 Z, E P "__loader__" 168 (B "__main__.__loader__#opaque"), E P "__spec__" 169 Z, E P "__annotations__" 170 (R 6), E P "__builtins__" 171 (R 4), E P "__file__" 173 (S "/claim/cut.py" 172), E P "__cached__" 174 Z, E P "_sre" 275 (R 12), E P "deque" 317 (T "collections.deque"), E P "_wall" 330 (R 44), E P "_special_chars_map" 478 (R 46), E P "escape" 485 (R 56), E P "translate_pattern" 496 (R 63), E P "_twin_re_1" 536 (R 68), E P "_whence" 546 (R 75), E P "_index" 554 (R 82)] 18), #[]⟩
noncomputable def o69 (P : Params) : Obj := ⟨Z, none, (fd [(I (3) 0), (I (0) 0), (R 43), (I (8) 0), (I (0) 0), (R 55), (I (15) 0), (I (0) 0), (R 62), (I (23) 0), (I (0) 0), (R 74), (I (28) 0), (I (0) 0), (R 81)]), #[]⟩
noncomputable def o70 (P : Params) : Obj := ⟨(T "tuple"), none, (sq [] 0), #[]⟩
noncomputable def o71 (P : Params) : Obj := ⟨Z, none, (fd []), #[]⟩
noncomputable def o72 (P : Params) : Obj := ⟨(T "tuple"), none, (sq [(S "k" 327)] 0), #[]⟩
noncomputable def o73 (P : Params) : Obj := ⟨(T "tuple"), none, (sq [] 0), #[]⟩
noncomputable def o74 (P : Params) : Obj := ⟨Z, none, (.func (fn (s1 2) "_wall" 0 [] Z Z Z Z none Z Z 0)), #[]⟩
noncomputable def o75 (P : Params) : Obj := ⟨(T "code"), none, (fd [(S "_wall" 324), (S "_wall" 325), (S "/claim/cut.py" 326), (I (3) 0), (I (1) 0), (I (0) 0), (I (0) 0), (I (3) 0), (R 38), (.bool true), (I (318) 0), (R 39), Z, (R 40), (R 41), (R 42), (I (328) 0), (I (3) 0), (S "/claim/cut.py" 329)]), #[]⟩
noncomputable def o76 (P : Params) : Obj := ⟨(T "function"), none, (.func (fn (s1 2) "_wall" 3 [] Z Z Z (S "__main__" 164) none (R 43) Z 0)), #[]⟩
noncomputable def o77 (P : Params) : Obj := ⟨(T "bytes_iterator"), none, (fd [Z, (I (24) 0)]), #[]⟩
noncomputable def o78 (P : Params) : Obj := ⟨(T "dict"), none, (dc [⟨40, (I (40) 334), (S "\\(" 338)⟩, ⟨41, (I (41) 340), (S "\\)" 344)⟩, ⟨91, (I (91) 346), (S "\\[" 350)⟩, ⟨93, (I (93) 352), (S "\\]" 356)⟩, ⟨123, (I (123) 358), (S "\\{" 362)⟩, ⟨125, (I (125) 364), (S "\\}" 368)⟩, ⟨63, (I (63) 370), (S "\\?" 374)⟩, ⟨42, (I (42) 376), (S "\\*" 380)⟩, ⟨43, (I (43) 382), (S "\\+" 386)⟩, ⟨45, (I (45) 388), (S "\\-" 392)⟩, ⟨124, (I (124) 394), (S "\\|" 398)⟩, ⟨94, (I (94) 400), (S "\\^" 404)⟩, ⟨36, (I (36) 406), (S "\\$" 410)⟩, ⟨92, (I (92) 412), (S "\\\\" 416)⟩, ⟨46, (I (46) 418), (S "\\." 422)⟩, ⟨38, (I (38) 424), (S "\\&" 428)⟩, ⟨126, (I (126) 430), (S "\\~" 434)⟩, ⟨35, (I (35) 436), (S "\\#" 440)⟩, ⟨32, (I (32) 442), (S "\\ " 446)⟩, ⟨9, (I (9) 448), (S "\\\t" 452)⟩, ⟨10, (I (10) 454), (S "\\\n" 458)⟩, ⟨13, (I (13) 460), (S "\\\x0d" 464)⟩, ⟨11, (I (11) 466), (S "\\\x0b" 470)⟩, ⟨12, (I (12) 472), (S "\\\x0c" 476)⟩] 24), #[]⟩
noncomputable def o79 (P : Params) : Obj := ⟨(T "dict"), none, (dc [] 2), #[]⟩
noncomputable def o80 (P : Params) : Obj := ⟨(T "tuple"), none, (sq [] 0), #[]⟩
noncomputable def o81 (P : Params) : Obj := ⟨(T "StopIteration"), none, (fd [(R 48), Z, Z, Z, (.bool false), Z]), #[]⟩
noncomputable def o82 (P : Params) : Obj := ⟨(T "tuple"), none, (sq [] 0), #[]⟩
noncomputable def o83 (P : Params) : Obj := ⟨Z, none, (fd []), #[]⟩
noncomputable def o84 (P : Params) : Obj := ⟨(T "tuple"), none, (sq [(S "pattern" 482)] 0), #[]⟩
noncomputable def o85 (P : Params) : Obj := ⟨(T "tuple"), none, (sq [] 0), #[]⟩
noncomputable def o86 (P : Params) : Obj := ⟨Z, none, (.func (fn (s1 5) "escape" 0 [] Z Z Z Z none Z Z 0)), #[]⟩
noncomputable def o87 (P : Params) : Obj := ⟨(T "code"), none, (fd [(S "escape" 479), (S "escape" 480), (S "/claim/cut.py" 481), (I (8) 0), (I (1) 0), (I (0) 0), (I (0) 0), (I (3) 0), (R 50), (.bool true), (I (318) 0), (R 51), Z, (R 52), (R 53), (R 54), (I (483) 0), (I (8) 0), (S "/claim/cut.py" 484)]), #[]⟩
noncomputable def o88 (P : Params) : Obj := ⟨(T "function"), none, (.func (fn (s1 5) "escape" 3 [] Z Z Z (S "re" 331) none (R 55) Z 0)), #[]⟩
noncomputable def o89 (P : Params) : Obj := ⟨(T "tuple"), none, (sq [] 0), #[]⟩
noncomputable def o90 (P : Params) : Obj := ⟨Z, none, (fd []), #[]⟩
noncomputable def o91 (P : Params) : Obj := ⟨(T "tuple"), none, (sq [(S "path" 491), (S "parts" 492), (S "i" 493)] 0), #[]⟩
noncomputable def o92 (P : Params) : Obj := ⟨(T "tuple"), none, (sq [] 0), #[]⟩
noncomputable def o93 (P : Params) : Obj := ⟨Z, none, (.func (fn (s1 7) "translate_pattern" 0 [] Z Z Z Z none Z Z 0)), #[]⟩
noncomputable def o94 (P : Params) : Obj := ⟨(T "code"), none, (fd [(S "translate_pattern" 488), (S "translate_pattern" 489), (S "/claim/cut.py" 490), (I (15) 0), (I (1) 0), (I (0) 0), (I (0) 0), (I (3) 0), (R 57), (.bool true), (I (318) 0), (R 58), Z, (R 59), (R 60), (R 61), (I (494) 0), (I (15) 0), (S "/claim/cut.py" 495)]), #[]⟩
noncomputable def o95 (P : Params) : Obj := ⟨(T "function"), none, (.func (fn (s1 7) "translate_pattern" 3 [] Z Z Z (S "cpy313.urllib.robotparser" 486) none (R 62) Z 0)), #[]⟩
noncomputable def o96 (P : Params) : Obj := ⟨(T "list"), none, (sq [(I (14) 500), (I (17) 501), (I (4) 502), (I (1) 503), (I (1) 504), (I (21) 505), (I (9) 506), (I (0) 507), (I (604043296) 508), (I (1) 509), (I (0) 510), (I (0) 511), (I (0) 512), (I (0) 513), (I (0) 514), (I (8) 515), (I (4) 516), (I (0) 517), (I (13) 518), (I (14) 519), (I (21) 520), (I (9) 521), (I (0) 522), (I (604043296) 523), (I (1) 524), (I (0) 525), (I (0) 526), (I (0) 527), (I (0) 528), (I (0) 529), (I (8) 530), (I (4) 531), (I (0) 532), (I (1) 533)] 0), #[]⟩
noncomputable def o97 (P : Params) : Obj := ⟨(T "dict"), none, (dc [] 0), #[]⟩
noncomputable def o98 (P : Params) : Obj := ⟨(T "tuple"), none, (sq [Z] 0), #[]⟩
noncomputable def o99 (P : Params) : Obj := ⟨(T "tuple"), none, (sq [(I (14) 0), (I (17) 0), (I (4) 0), (I (1) 0), (I (1) 0), (I (21) 0), (I (9) 0), (I (0) 0), (I (604043296) 0), (I (1) 0), (I (0) 0), (I (0) 0), (I (0) 0), (I (0) 0), (I (0) 0), (I (8) 0), (I (4) 0), (I (0) 0), (I (13) 0), (I (14) 0), (I (21) 0), (I (9) 0), (I (0) 0), (I (604043296) 0), (I (1) 0), (I (0) 0), (I (0) 0), (I (0) 0), (I (0) 0), (I (0) 0), (I (8) 0), (I (4) 0), (I (0) 0), (I (1) 0)] 0), #[]⟩
noncomputable def o100 (P : Params) : Obj := ⟨(T "re.Pattern"), none, (fd [(S "[^\\w@%+=:,./-]" 498), (I (256) 535), (I (0) 0), Z, Z, (R 67), (I (0) 0)]), #[]⟩
noncomputable def o101 (P : Params) : Obj := ⟨(T "tuple"), none, (sq [] 0), #[]⟩
noncomputable def o102 (P : Params) : Obj := ⟨Z, none, (fd []), #[]⟩
noncomputable def o103 (P : Params) : Obj := ⟨(T "tuple"), none, (sq [(S "n" 542), (S "what" 543)] 0), #[]⟩
noncomputable def o104 (P : Params) : Obj := ⟨(T "tuple"), none, (sq [] 0), #[]⟩
noncomputable def o105 (P : Params) : Obj := ⟨Z, none, (.func (fn (s1 10) "_whence" 0 [] Z Z Z Z none Z Z 0)), #[]⟩
noncomputable def o106 (P : Params) : Obj := ⟨(T "code"), none, (fd [(S "_whence" 539), (S "_whence" 540), (S "/claim/cut.py" 541), (I (23) 0), (I (2) 0), (I (0) 0), (I (0) 0), (I (3) 0), (R 69), (.bool true), (I (318) 0), (R 70), Z, (R 71), (R 72), (R 73), (I (544) 0), (I (23) 0), (S "/claim/cut.py" 545)]), #[]⟩
noncomputable def o107 (P : Params) : Obj := ⟨(T "function"), none, (.func (fn (s1 10) "_whence" 3 [] Z Z Z (S "io" 537) none (R 74) Z 0)), #[]⟩
noncomputable def o108 (P : Params) : Obj := ⟨(T "tuple"), none, (sq [] 0), #[]⟩
noncomputable def o109 (P : Params) : Obj := ⟨Z, none, (fd []), #[]⟩
noncomputable def o110 (P : Params) : Obj := ⟨(T "tuple"), none, (sq [(S "n" 550), (S "what" 551)] 0), #[]⟩
noncomputable def o111 (P : Params) : Obj := ⟨(T "tuple"), none, (sq [] 0), #[]⟩
noncomputable def o112 (P : Params) : Obj := ⟨Z, none, (.func (fn (s1 11) "_index" 0 [] Z Z Z Z none Z Z 0)), #[]⟩
noncomputable def o113 (P : Params) : Obj := ⟨(T "code"), none, (fd [(S "_index" 547), (S "_index" 548), (S "/claim/cut.py" 549), (I (28) 0), (I (2) 0), (I (0) 0), (I (0) 0), (I (3) 0), (R 76), (.bool true), (I (318) 0), (R 77), Z, (R 78), (R 79), (R 80), (I (552) 0), (I (28) 0), (S "/claim/cut.py" 553)]), #[]⟩
noncomputable def o114 (P : Params) : Obj := ⟨(T "function"), none, (.func (fn (s1 11) "_index" 3 [] Z Z Z (S "io" 537) none (R 81) Z 0)), #[]⟩
noncomputable abbrev life_g0 : Life := { }
noncomputable abbrev drawn_g0 : Drawn := { }
noncomputable abbrev gens_g0 : Array GenState := #[]
noncomputable abbrev toks_g0 : Nat := 555
noncomputable def tree_g0 (P : Params) : BT := (N (o34 P) (N (o35 P) (N (o68 P) (N (o40 P) (N (o47 P) (N (o31 P) (N (o95 P) L L) L) (N (o79 P) (N (o111 P) L L) L)) (N (o54 P) (N (o71 P) (N (o103 P) L L) L) (N (o87 P) L L))) (N (o43 P) (N (o19 P) (N (o69 P) (N (o99 P) L L) L) (N (o83 P) L L)) (N (o58 P) (N (o75 P) (N (o107 P) L L) L) (N (o91 P) L L)))) (N (o39 P) (N (o41 P) (N (o49 P) (N (o63 P) (N (o97 P) L L) L) (N (o81 P) (N (o113 P) L L) L)) (N (o56 P) (N (o73 P) (N (o105 P) L L) L) (N (o89 P) L L))) (N (o45 P) (N (o52 P) (N (o67 P) (N (o101 P) L L) L) (N (o85 P) L L)) (N (o60 P) (N (o77 P) (N (o109 P) L L) L) (N (o93 P) L L))))) (N (o36 P) (N (o38 P) (N (o8 P) (N (o48 P) (N (o62 P) (N (o96 P) L L) L) (N (o80 P) (N (o112 P) L L) L)) (N (o55 P) (N (o72 P) (N (o104 P) L L) L) (N (o88 P) L L))) (N (o44 P) (N (o51 P) (N (o66 P) (N (o100 P) L L) L) (N (o84 P) L L)) (N (o59 P) (N (o76 P) (N (o108 P) L L) L) (N (o92 P) L L)))) (N (o6 P) (N (o42 P) (N (o50 P) (N (o64 P) (N (o98 P) L L) L) (N (o82 P) (N (o114 P) L L) L)) (N (o57 P) (N (o74 P) (N (o106 P) L L) L) (N (o90 P) L L))) (N (o46 P) (N (o53 P) (N (o70 P) (N (o102 P) L L) L) (N (o86 P) L L)) (N (o61 P) (N (o78 P) (N (o110 P) L L) L) (N (o94 P) L L))))))
noncomputable abbrev stT_g0 (w : World) (os : OsState) : SharedT := ⟨tree_g0 w.params, 83, life_g0, gens_g0, drawn_g0, toks_g0, os⟩
noncomputable abbrev st_g0 (w : World) (os : OsState) : Shared := SharedT.abs (stT_g0 w os)
noncomputable def o115 (P : Params) : Obj := ⟨Z, none, (dc [E P "\x69mport.loaded._sre" 183 (.bool true), E P "class._frozen_importlib.BuiltinImporter" 185 (R 14), E P "watched.\x69mport" 206 (R 18), E P "class._frozen_importlib.ModuleSpec" 216 (R 22), E P "sys.modules.booked-epoch" 245 (I (4) 0), E P "\x69mport.later-laid._sre" 270 (.bool true), E P "watched.library" 272 (R 27), E P "watched.library-objects" 0 (S "\x0c\x1e" 0), E P "watched.library-deep._sre" 273 (S "\x04\x00\x00\x0b\x04\x00\x00\x0b\x04\x00\x00\x03\x04\x00\x00\x0b\x08\x04dict\x02" 0), E P "\x69mport.loaded._collections" 280 (.bool true), E P "sys.modules.landed._collections" 294 (.bool true), E P "\x69mport.later-laid._collections" 309 (.bool true), E P "watched.library-deep._collections" 311 (S "\x04\x00\x00\x1d\x04\x00\x00\x1d\x04\x00\x00\x03\x04\x00\x00\x1d\x08\x04dict\x02" 0), E P "type.__subclasses__.OSError.0" 573 (I (92) 0), E P "type.__subclasses__.OSError.n" 574 (I (1) 0)] 15), #[]⟩
noncomputable def o116 (P : Params) : Obj := ⟨(T "dict"), none, (dc [E P "__name__" 165 (S "io" 537), E P "__doc__" 166 Z, E P "__package__" 167 Z, E P "__loader__" 168 (B "__main__.__loader__#opaque"), E P "__spec__" 169 Z, E P "__annotations__" 170 (R 6), E P "__builtins__" 171 (R 4), E P "__file__" 173 (S "/claim/cut.py" 172), E P "__cached__" 174 Z, E P "_sre" 275 (R 12), E P "deque" 317 (T "collections.deque"), E P "_wall" 330 (R 44), E P "_special_chars_map" 478 (R 46), E P "escape" 485 (R 56), E P "translate_pattern" 496 (R 63), E P "_twin_re_1" 536 (R 68), E P "_whence" 546 (R 75), E P "_index" 554 (R 82), E P "UnsupportedOperation" 576 (R 92), E P "IOBase" 608 (R 112), E P "BufferedIOBase" 626 (R 127), E P "TextIOBase" 644 (R 139)] 22), #[]⟩
noncomputable def o117 (P : Params) : Obj := ⟨Z, none, (fd [(I (3) 0), (I (0) 0), (R 43), (I (8) 0), (I (0) 0), (R 55), (I (15) 0), (I (0) 0), (R 62), (I (23) 0), (I (0) 0), (R 74), (I (28) 0), (I (0) 0), (R 81), (I (35) 0), (I (0) 0), (R 88), (I (37) 0), (I (0) 0), (R 101), (I (44) 0), (I (0) 0), (R 123), (I (46) 0), (I (0) 0), (R 135)]), #[]⟩
noncomputable def o118 (P : Params) : Obj := ⟨(T "tuple"), none, (sq [(T "OSError"), (T "ValueError")] 0), #[]⟩
noncomputable def o119 (P : Params) : Obj := ⟨(T "builtin_function_or_method"), none, (fd [(B "type.__prepare__"), (T "type")]), #[]⟩
noncomputable def o120 (P : Params) : Obj := ⟨(T "dict"), none, (dc [E P "__module__" 562 (S "io" 567), E P "__qualname__" 564 (S "UnsupportedOperation" 563), E P "__firstlineno__" 566 (I (35) 565), E P "__static_attributes__" 569 (R 90)] 4), #[]⟩
noncomputable def o121 (P : Params) : Obj := ⟨(T "tuple"), none, (sq [] 0), #[]⟩
noncomputable def o122 (P : Params) : Obj := ⟨Z, none, (fd []), #[]⟩
noncomputable def o123 (P : Params) : Obj := ⟨(T "code"), none, (fd [(S "UnsupportedOperation" 557), (S "UnsupportedOperation" 558), (S "/claim/cut.py" 559), (I (35) 0), (I (0) 0), (I (0) 0), (I (0) 0), (I (0) 0), (R 86), (.bool false), (I (318) 0), (R 87), Z, Z, Z, Z, (I (560) 0), (I (35) 0), (S "/claim/cut.py" 561)]), #[]⟩
noncomputable def o124 (P : Params) : Obj := ⟨(T "frame"), none, .plain, #[(some (R 88)), (some (R 3)), (some (R 85)), none, (some (S "io" 537)), none, (some (R 0))]⟩
noncomputable def o125 (P : Params) : Obj := ⟨(T "tuple"), none, (sq [] 0), #[]⟩
noncomputable def o126 (P : Params) : Obj := ⟨(T "dict"), none, (dc [E P "__module__" 562 (S "io" 567), E P "__firstlineno__" 566 (I (35) 565), E P "__static_attributes__" 569 (R 90), E P "__weakref__" 571 (R 93), E P "__doc__" 572 Z] 3), #[]⟩
noncomputable def o127 (P : Params) : Obj := ⟨(T "type"), none, (.cls ⟨S0 "UnsupportedOperation", [(T "OSError"), (T "ValueError")], [(R 92), (T "OSError"), (T "ValueError"), (T "Exception"), (T "BaseException"), (T "object")], 91, S0 "UnsupportedOperation", true, [], [], false, none, false⟩), #[(some (R 83)), none, (some (S "UnsupportedOperation" 555)), (some (S "UnsupportedOperation" 563)), (some (B "OSError.__new__")), (some (.bool true))]⟩
noncomputable def o128 (P : Params) : Obj := ⟨(T "getset_descriptor"), none, (fd [(S "__weakref__" 570), (R 92), (B "ExceptionGroup.__weakref__"), Z]), #[]⟩
noncomputable def o129 (P : Params) : Obj := ⟨(T "super"), none, (fd [(R 92), (R 92), (R 92)]), #[]⟩
noncomputable def o130 (P : Params) : Obj := ⟨(T "builtin_function_or_method"), none, (fd [(B "object.__init_subclass__"), (R 92)]), #[]⟩
noncomputable def o131 (P : Params) : Obj := ⟨(T "tuple"), none, (sq [] 0), #[]⟩
noncomputable def o132 (P : Params) : Obj := ⟨(T "builtin_function_or_method"), none, (fd [(B "type.__prepare__"), (T "type")]), #[]⟩
noncomputable def o133 (P : Params) : Obj := ⟨(T "dict"), none, (dc [E P "__module__" 584 (S "io" 589), E P "__qualname__" 586 (S "IOBase" 585), E P "__firstlineno__" 588 (I (37) 587), E P "__new__" 599 (R 109), E P "__static_attributes__" 600 (R 110)] 5), #[]⟩
noncomputable def o134 (P : Params) : Obj := ⟨(T "tuple"), none, (sq [] 0), #[]⟩
noncomputable def o135 (P : Params) : Obj := ⟨Z, none, (fd [(I (40) 0), (I (4) 0), (R 108)]), #[]⟩
noncomputable def o136 (P : Params) : Obj := ⟨(T "code"), none, (fd [(S "IOBase" 579), (S "IOBase" 580), (S "/claim/cut.py" 581), (I (37) 0), (I (0) 0), (I (0) 0), (I (0) 0), (I (0) 0), (R 99), (.bool false), (I (318) 0), (R 100), Z, Z, Z, Z, (I (582) 0), (I (37) 0), (S "/claim/cut.py" 583)]), #[]⟩
noncomputable def o137 (P : Params) : Obj := ⟨(T "frame"), none, .plain, #[(some (R 101)), (some (R 3)), (some (R 98)), none, (some (S "io" 537)), none, (some (R 0))]⟩
noncomputable def o138 (P : Params) : Obj := ⟨(T "tuple"), none, (sq [] 0), #[]⟩
noncomputable def o139 (P : Params) : Obj := ⟨Z, none, (fd []), #[]⟩
noncomputable def o140 (P : Params) : Obj := ⟨(T "tuple"), none, (sq [(S "cls" 594), (S "args" 595), (S "kwargs" 596)] 0), #[]⟩
noncomputable def o141 (P : Params) : Obj := ⟨(T "tuple"), none, (sq [] 0), #[]⟩
noncomputable def o142 (P : Params) : Obj := ⟨Z, none, (.func (fn (s2 13 1) "IOBase.__new__" 0 [] Z Z Z Z none Z Z 0)), #[]⟩
noncomputable def o143 (P : Params) : Obj := ⟨(T "code"), none, (fd [(S "__new__" 591), (S "IOBase.__new__" 592), (S "/claim/cut.py" 593), (I (40) 0), (I (1) 0), (I (1) 0), (I (0) 0), (I (15) 0), (R 103), (.bool true), (I (318) 0), (R 104), Z, (R 105), (R 106), (R 107), (I (597) 0), (I (40) 0), (S "/claim/cut.py" 598)]), #[]⟩
noncomputable def o144 (P : Params) : Obj := ⟨(T "function"), none, (.func (fn (s2 13 1) "IOBase.__new__" 3 [] Z Z Z (S "io" 537) none (R 108) Z 0)), #[]⟩
noncomputable def o145 (P : Params) : Obj := ⟨(T "tuple"), none, (sq [] 0), #[]⟩
noncomputable def o146 (P : Params) : Obj := ⟨(T "dict"), none, (dc [E P "__module__" 584 (S "io" 589), E P "__firstlineno__" 588 (I (37) 587), E P "__new__" 599 (R 113), E P "__static_attributes__" 600 (R 110), E P "__dict__" 603 (R 114), E P "__weakref__" 605 (R 115), E P "__doc__" 606 Z] 4), #[]⟩
noncomputable def o147 (P : Params) : Obj := ⟨(T "type"), none, (.cls ⟨S0 "IOBase", [(T "object")], [(R 112), (T "object")], 111, S0 "IOBase", true, [], [(R 127), (R 139)], false, none, false⟩), #[none, none, (some (S "IOBase" 577)), (some (S "IOBase" 585)), (some Z), (some (.bool true))]⟩
noncomputable def o148 (P : Params) : Obj := ⟨(T "staticmethod"), none, (fd [(R 109)]), #[]⟩
noncomputable def o149 (P : Params) : Obj := ⟨(T "getset_descriptor"), none, (fd [(S "__dict__" 602), (R 112), (B "function.__dict__"), (B "function.__dict__#set")]), #[]⟩
noncomputable def o150 (P : Params) : Obj := ⟨(T "getset_descriptor"), none, (fd [(S "__weakref__" 604), (R 112), (B "ExceptionGroup.__weakref__"), Z]), #[]⟩
noncomputable def o151 (P : Params) : Obj := ⟨(T "super"), none, (fd [(R 112), (R 112), (R 112)]), #[]⟩
noncomputable def o152 (P : Params) : Obj := ⟨(T "builtin_function_or_method"), none, (fd [(B "object.__init_subclass__"), (R 112)]), #[]⟩
noncomputable def o153 (P : Params) : Obj := ⟨(T "tuple"), none, (sq [(R 112)] 0), #[]⟩
noncomputable def o154 (P : Params) : Obj := ⟨(T "builtin_function_or_method"), none, (fd [(B "type.__prepare__"), (T "type")]), #[]⟩
noncomputable def o155 (P : Params) : Obj := ⟨(T "dict"), none, (dc [E P "__module__" 616 (S "io" 621), E P "__qualname__" 618 (S "BufferedIOBase" 617), E P "__firstlineno__" 620 (I (44) 619), E P "__static_attributes__" 623 (R 125)] 4), #[]⟩
noncomputable def o156 (P : Params) : Obj := ⟨(T "tuple"), none, (sq [] 0), #[]⟩
noncomputable def o157 (P : Params) : Obj := ⟨Z, none, (fd []), #[]⟩
noncomputable def o158 (P : Params) : Obj := ⟨(T "code"), none, (fd [(S "BufferedIOBase" 611), (S "BufferedIOBase" 612), (S "/claim/cut.py" 613), (I (44) 0), (I (0) 0), (I (0) 0), (I (0) 0), (I (0) 0), (R 121), (.bool false), (I (318) 0), (R 122), Z, Z, Z, Z, (I (614) 0), (I (44) 0), (S "/claim/cut.py" 615)]), #[]⟩
noncomputable def o159 (P : Params) : Obj := ⟨(T "frame"), none, .plain, #[(some (R 123)), (some (R 3)), (some (R 120)), none, (some (S "io" 537)), none, (some (R 0))]⟩
noncomputable def o160 (P : Params) : Obj := ⟨(T "tuple"), none, (sq [] 0), #[]⟩
noncomputable def o161 (P : Params) : Obj := ⟨(T "dict"), none, (dc [E P "__module__" 616 (S "io" 621), E P "__firstlineno__" 620 (I (44) 619), E P "__static_attributes__" 623 (R 125), E P "__doc__" 624 Z] 2), #[]⟩
noncomputable def o162 (P : Params) : Obj := ⟨(T "type"), none, (.cls ⟨S0 "BufferedIOBase", [(R 112)], [(R 127), (R 112), (T "object")], 126, S0 "BufferedIOBase", true, [], [], false, none, false⟩), #[(some (R 118)), none, (some (S "BufferedIOBase" 609)), (some (S "BufferedIOBase" 617)), (some Z), (some (.bool true))]⟩
noncomputable def o163 (P : Params) : Obj := ⟨(T "super"), none, (fd [(R 127), (R 127), (R 127)]), #[]⟩
noncomputable def o164 (P : Params) : Obj := ⟨(T "builtin_function_or_method"), none, (fd [(B "object.__init_subclass__"), (R 127)]), #[]⟩
noncomputable def o165 (P : Params) : Obj := ⟨(T "tuple"), none, (sq [(R 112)] 0), #[]⟩
noncomputable def o166 (P : Params) : Obj := ⟨(T "builtin_function_or_method"), none, (fd [(B "type.__prepare__"), (T "type")]), #[]⟩
noncomputable def o167 (P : Params) : Obj := ⟨(T "dict"), none, (dc [E P "__module__" 634 (S "io" 639), E P "__qualname__" 636 (S "TextIOBase" 635), E P "__firstlineno__" 638 (I (46) 637), E P "__static_attributes__" 641 (R 137)] 4), #[]⟩
noncomputable def o168 (P : Params) : Obj := ⟨(T "tuple"), none, (sq [] 0), #[]⟩
noncomputable def o169 (P : Params) : Obj := ⟨Z, none, (fd []), #[]⟩
noncomputable def o170 (P : Params) : Obj := ⟨(T "code"), none, (fd [(S "TextIOBase" 629), (S "TextIOBase" 630), (S "/claim/cut.py" 631), (I (46) 0), (I (0) 0), (I (0) 0), (I (0) 0), (I (0) 0), (R 133), (.bool false), (I (318) 0), (R 134), Z, Z, Z, Z, (I (632) 0), (I (46) 0), (S "/claim/cut.py" 633)]), #[]⟩
noncomputable def o171 (P : Params) : Obj := ⟨(T "frame"), none, .plain, #[(some (R 135)), (some (R 3)), (some (R 132)), none, (some (S "io" 537)), none, (some (R 0))]⟩
noncomputable def o172 (P : Params) : Obj := ⟨(T "tuple"), none, (sq [] 0), #[]⟩
noncomputable def o173 (P : Params) : Obj := ⟨(T "dict"), none, (dc [E P "__module__" 634 (S "io" 639), E P "__firstlineno__" 638 (I (46) 637), E P "__static_attributes__" 641 (R 137), E P "__doc__" 642 Z] 2), #[]⟩
noncomputable def o174 (P : Params) : Obj := ⟨(T "type"), none, (.cls ⟨S0 "TextIOBase", [(R 112)], [(R 139), (R 112), (T "object")], 138, S0 "TextIOBase", true, [], [], false, none, false⟩), #[(some (R 130)), none, (some (S "TextIOBase" 627)), (some (S "TextIOBase" 635)), (some Z), (some (.bool true))]⟩
noncomputable def o175 (P : Params) : Obj := ⟨(T "super"), none, (fd [(R 139), (R 139), (R 139)]), #[]⟩
noncomputable def o176 (P : Params) : Obj := ⟨(T "builtin_function_or_method"), none, (fd [(B "object.__init_subclass__"), (R 139)]), #[]⟩
noncomputable abbrev life_g1 : Life := { }
noncomputable abbrev drawn_g1 : Drawn := { }
noncomputable abbrev gens_g1 : Array GenState := #[]
noncomputable abbrev toks_g1 : Nat := 645
noncomputable def tree_g1 (P : Params) : BT := (N (o34 P) (N (o35 P) (N (o116 P) (N (o40 P) (N (o47 P) (N (o31 P) (N (o95 P) (N (o162 P) L L) L) (N (o130 P) L L)) (N (o79 P) (N (o111 P) L L) (N (o146 P) L L))) (N (o54 P) (N (o71 P) (N (o103 P) (N (o170 P) L L) L) (N (o138 P) L L)) (N (o87 P) (N (o122 P) L L) (N (o154 P) L L)))) (N (o43 P) (N (o19 P) (N (o117 P) (N (o99 P) (N (o166 P) L L) L) (N (o134 P) L L)) (N (o83 P) (N (o118 P) L L) (N (o150 P) L L))) (N (o58 P) (N (o75 P) (N (o107 P) (N (o174 P) L L) L) (N (o142 P) L L)) (N (o91 P) (N (o126 P) L L) (N (o158 P) L L))))) (N (o39 P) (N (o41 P) (N (o49 P) (N (o63 P) (N (o97 P) (N (o164 P) L L) L) (N (o132 P) L L)) (N (o81 P) (N (o113 P) L L) (N (o148 P) L L))) (N (o56 P) (N (o73 P) (N (o105 P) (N (o172 P) L L) L) (N (o140 P) L L)) (N (o89 P) (N (o124 P) L L) (N (o156 P) L L)))) (N (o45 P) (N (o52 P) (N (o67 P) (N (o101 P) (N (o168 P) L L) L) (N (o136 P) L L)) (N (o85 P) (N (o120 P) L L) (N (o152 P) L L))) (N (o60 P) (N (o77 P) (N (o109 P) (N (o176 P) L L) L) (N (o144 P) L L)) (N (o93 P) (N (o128 P) L L) (N (o160 P) L L)))))) (N (o115 P) (N (o38 P) (N (o8 P) (N (o48 P) (N (o62 P) (N (o96 P) (N (o163 P) L L) L) (N (o131 P) L L)) (N (o80 P) (N (o112 P) L L) (N (o147 P) L L))) (N (o55 P) (N (o72 P) (N (o104 P) (N (o171 P) L L) L) (N (o139 P) L L)) (N (o88 P) (N (o123 P) L L) (N (o155 P) L L)))) (N (o44 P) (N (o51 P) (N (o66 P) (N (o100 P) (N (o167 P) L L) L) (N (o135 P) L L)) (N (o84 P) (N (o119 P) L L) (N (o151 P) L L))) (N (o59 P) (N (o76 P) (N (o108 P) (N (o175 P) L L) L) (N (o143 P) L L)) (N (o92 P) (N (o127 P) L L) (N (o159 P) L L))))) (N (o6 P) (N (o42 P) (N (o50 P) (N (o64 P) (N (o98 P) (N (o165 P) L L) L) (N (o133 P) L L)) (N (o82 P) (N (o114 P) L L) (N (o149 P) L L))) (N (o57 P) (N (o74 P) (N (o106 P) (N (o173 P) L L) L) (N (o141 P) L L)) (N (o90 P) (N (o125 P) L L) (N (o157 P) L L)))) (N (o46 P) (N (o53 P) (N (o70 P) (N (o102 P) (N (o169 P) L L) L) (N (o137 P) L L)) (N (o86 P) (N (o121 P) L L) (N (o153 P) L L))) (N (o61 P) (N (o78 P) (N (o110 P) L L) (N (o145 P) L L)) (N (o94 P) (N (o129 P) L L) (N (o161 P) L L)))))))
noncomputable abbrev stT_g1 (w : World) (os : OsState) : SharedT := ⟨tree_g1 w.params, 142, life_g1, gens_g1, drawn_g1, toks_g1, os⟩
noncomputable abbrev st_g1 (w : World) (os : OsState) : Shared := SharedT.abs (stT_g1 w os)
noncomputable def o177 (P : Params) : Obj := ⟨(T "dict"), none, (dc [E P "__name__" 165 (S "io" 537), E P "__doc__" 166 Z, E P "__package__" 167 Z, E P "__loader__" 168 (B "__main__.__loader__#opaque"), E P "__spec__" 169 Z, E P "__annotations__" 170 (R 6), E P "__builtins__" 171 (R 4), E P "__file__" 173 (S "/claim/cut.py" 172), E P "__cached__" 174 Z, E P "_sre" 275 (R 12), E P "deque" 317 (T "collections.deque"), E P "_wall" 330 (R 44), E P "_special_chars_map" 478 (R 46), E P "escape" 485 (R 56), E P "translate_pattern" 496 (R 63), E P "_twin_re_1" 536 (R 68), E P "_whence" 546 (R 75), E P "_index" 554 (R 82), E P "UnsupportedOperation" 576 (R 92), E P "IOBase" 608 (R 112), E P "BufferedIOBase" 626 (R 127), E P "TextIOBase" 644 (R 139), E P "BytesIO" 906 (R 369)] 23), #[]⟩
noncomputable def o178 (P : Params) : Obj := ⟨Z, none, (fd [(I (3) 0), (I (0) 0), (R 43), (I (8) 0), (I (0) 0), (R 55), (I (15) 0), (I (0) 0), (R 62), (I (23) 0), (I (0) 0), (R 74), (I (28) 0), (I (0) 0), (R 81), (I (35) 0), (I (0) 0), (R 88), (I (37) 0), (I (0) 0), (R 101), (I (44) 0), (I (0) 0), (R 123), (I (46) 0), (I (0) 0), (R 135), (I (48) 0), (I (0) 0), (R 147)]), #[]⟩
noncomputable def o179 (P : Params) : Obj := ⟨(T "type"), none, (.cls ⟨S0 "BufferedIOBase", [(R 112)], [(R 127), (R 112), (T "object")], 126, S0 "BufferedIOBase", true, [], [(R 369)], false, none, false⟩), #[(some (R 118)), none, (some (S "BufferedIOBase" 609)), (some (S "BufferedIOBase" 617)), (some Z), (some (.bool true))]⟩
noncomputable def o180 (P : Params) : Obj := ⟨(T "tuple"), none, (sq [(R 127)] 0), #[]⟩
noncomputable def o181 (P : Params) : Obj := ⟨(T "builtin_function_or_method"), none, (fd [(B "type.__prepare__"), (T "type")]), #[]⟩
noncomputable def o182 (P : Params) : Obj := ⟨(T "dict"), none, (dc [E P "__module__" 652 (S "_io" 657), E P "__qualname__" 654 (S "BytesIO" 653), E P "__firstlineno__" 656 (I (48) 655), E P "__init__" 666 (R 156), E P "_BytesIO__check" 673 (R 163), E P "_BytesIO__line" 684 (R 170), E P "closed" 692 (R 178), E P "close" 699 (R 185), E P "__enter__" 706 (R 192), E P "__exit__" 714 (R 199), E P "readable" 721 (R 206), E P "writable" 728 (R 213), E P "seekable" 735 (R 220), E P "isatty" 742 (R 227), E P "flush" 749 (R 234), E P "fileno" 756 (R 241), E P "detach" 763 (R 248), E P "getvalue" 770 (R 255), E P "getbuffer" 777 (R 262), E P "tell" 784 (R 269), E P "seek" 794 (R 277), E P "truncate" 802 (R 285), E P "read" 814 (R 293), E P "read1" 824 (R 301), E P "readinto" 834 (R 308), E P "readinto1" 842 (R 315), E P "readline" 852 (R 323), E P "readlines" 860 (R 331), E P "__iter__" 867 (R 338), E P "__next__" 875 (R 345), E P "write" 885 (R 352), E P "writelines" 893 (R 359), E P "__repr__" 900 (R 366), E P "__static_attributes__" 903 (R 367)] 34), #[]⟩
noncomputable def o183 (P : Params) : Obj := ⟨(T "tuple"), none, (sq [] 0), #[]⟩
noncomputable def o184 (P : Params) : Obj := ⟨Z, none, (fd [(I (51) 0), (I (4) 0), (R 155), (I (57) 0), (I (4) 0), (R 162), (I (61) 0), (I (4) 0), (R 169), (I (75) 0), (I (4) 0), (R 176), (I (78) 0), (I (4) 0), (R 184), (I (81) 0), (I (4) 0), (R 191), (I (85) 0), (I (4) 0), (R 198), (I (88) 0), (I (4) 0), (R 205), (I (92) 0), (I (4) 0), (R 212), (I (96) 0), (I (4) 0), (R 219), (I (100) 0), (I (4) 0), (R 226), (I (104) 0), (I (4) 0), (R 233), (I (107) 0), (I (4) 0), (R 240), (I (110) 0), (I (4) 0), (R 247), (I (113) 0), (I (4) 0), (R 254), (I (116) 0), (I (4) 0), (R 261), (I (119) 0), (I (4) 0), (R 268), (I (123) 0), (I (4) 0), (R 276), (I (140) 0), (I (4) 0), (R 284), (I (143) 0), (I (4) 0), (R 292), (I (157) 0), (I (4) 0), (R 300), (I (160) 0), (I (4) 0), (R 307), (I (174) 0), (I (4) 0), (R 314), (I (177) 0), (I (4) 0), (R 322), (I (184) 0), (I (4) 0), (R 330), (I (187) 0), (I (4) 0), (R 337), (I (190) 0), (I (4) 0), (R 344), (I (197) 0), (I (4) 0), (R 351), (I (213) 0), (I (4) 0), (R 358), (I (216) 0), (I (4) 0), (R 365)]), #[]⟩
noncomputable def o185 (P : Params) : Obj := ⟨(T "code"), none, (fd [(S "BytesIO" 647), (S "BytesIO" 648), (S "/claim/cut.py" 649), (I (48) 0), (I (0) 0), (I (0) 0), (I (0) 0), (I (0) 0), (R 145), (.bool false), (I (318) 0), (R 146), Z, Z, Z, Z, (I (650) 0), (I (48) 0), (S "/claim/cut.py" 651)]), #[]⟩
noncomputable def o186 (P : Params) : Obj := ⟨(T "frame"), none, .plain, #[(some (R 147)), (some (R 3)), (some (R 144)), none, (some (S "io" 537)), none, (some (R 0))]⟩
noncomputable def o187 (P : Params) : Obj := ⟨(T "tuple"), none, (sq [Z] 0), #[]⟩
noncomputable def o188 (P : Params) : Obj := ⟨(T "tuple"), none, (sq [] 0), #[]⟩
noncomputable def o189 (P : Params) : Obj := ⟨Z, none, (fd []), #[]⟩
noncomputable def o190 (P : Params) : Obj := ⟨(T "tuple"), none, (sq [(S "self" 662), (S "initial_bytes" 663)] 0), #[]⟩
noncomputable def o191 (P : Params) : Obj := ⟨(T "tuple"), none, (sq [] 0), #[]⟩
noncomputable def o192 (P : Params) : Obj := ⟨Z, none, (.func (fn (s2 16 1) "BytesIO.__init__" 0 [] Z Z Z Z none Z Z 0)), #[]⟩
noncomputable def o193 (P : Params) : Obj := ⟨(T "code"), none, (fd [(S "__init__" 659), (S "BytesIO.__init__" 660), (S "/claim/cut.py" 661), (I (51) 0), (I (2) 0), (I (0) 0), (I (0) 0), (I (3) 0), (R 150), (.bool true), (I (318) 0), (R 151), Z, (R 152), (R 153), (R 154), (I (664) 0), (I (51) 0), (S "/claim/cut.py" 665)]), #[]⟩
noncomputable def o194 (P : Params) : Obj := ⟨(T "function"), none, (.func (fn (s2 16 1) "BytesIO.__init__" 3 [] (R 149) Z Z (S "io" 537) none (R 155) Z 0)), #[]⟩
noncomputable def o195 (P : Params) : Obj := ⟨(T "tuple"), none, (sq [] 0), #[]⟩
noncomputable def o196 (P : Params) : Obj := ⟨Z, none, (fd []), #[]⟩
noncomputable def o197 (P : Params) : Obj := ⟨(T "tuple"), none, (sq [(S "self" 670)] 0), #[]⟩
noncomputable def o198 (P : Params) : Obj := ⟨(T "tuple"), none, (sq [] 0), #[]⟩
noncomputable def o199 (P : Params) : Obj := ⟨Z, none, (.func (fn (s2 16 2) "BytesIO.__check" 0 [] Z Z Z Z none Z Z 0)), #[]⟩
noncomputable def o200 (P : Params) : Obj := ⟨(T "code"), none, (fd [(S "__check" 667), (S "BytesIO.__check" 668), (S "/claim/cut.py" 669), (I (57) 0), (I (1) 0), (I (0) 0), (I (0) 0), (I (3) 0), (R 157), (.bool true), (I (318) 0), (R 158), Z, (R 159), (R 160), (R 161), (I (671) 0), (I (57) 0), (S "/claim/cut.py" 672)]), #[]⟩
noncomputable def o201 (P : Params) : Obj := ⟨(T "function"), none, (.func (fn (s2 16 2) "BytesIO.__check" 3 [] Z Z Z (S "io" 537) none (R 162) Z 0)), #[]⟩
noncomputable def o202 (P : Params) : Obj := ⟨(T "tuple"), none, (sq [] 0), #[]⟩
noncomputable def o203 (P : Params) : Obj := ⟨Z, none, (fd []), #[]⟩
noncomputable def o204 (P : Params) : Obj := ⟨(T "tuple"), none, (sq [(S "self" 677), (S "limit" 678), (S "start" 679), (S "stop" 680), (S "i" 681)] 0), #[]⟩
noncomputable def o205 (P : Params) : Obj := ⟨(T "tuple"), none, (sq [] 0), #[]⟩
noncomputable def o206 (P : Params) : Obj := ⟨Z, none, (.func (fn (s2 16 3) "BytesIO.__line" 0 [] Z Z Z Z none Z Z 0)), #[]⟩
noncomputable def o207 (P : Params) : Obj := ⟨(T "code"), none, (fd [(S "__line" 674), (S "BytesIO.__line" 675), (S "/claim/cut.py" 676), (I (61) 0), (I (2) 0), (I (0) 0), (I (0) 0), (I (3) 0), (R 164), (.bool true), (I (318) 0), (R 165), Z, (R 166), (R 167), (R 168), (I (682) 0), (I (61) 0), (S "/claim/cut.py" 683)]), #[]⟩
noncomputable def o208 (P : Params) : Obj := ⟨(T "function"), none, (.func (fn (s2 16 3) "BytesIO.__line" 3 [] Z Z Z (S "io" 537) none (R 169) Z 0)), #[]⟩
noncomputable def o209 (P : Params) : Obj := ⟨(T "tuple"), none, (sq [] 0), #[]⟩
noncomputable def o210 (P : Params) : Obj := ⟨Z, none, (fd []), #[]⟩
noncomputable def o211 (P : Params) : Obj := ⟨(T "tuple"), none, (sq [(S "self" 688)] 0), #[]⟩
noncomputable def o212 (P : Params) : Obj := ⟨(T "tuple"), none, (sq [] 0), #[]⟩
noncomputable def o213 (P : Params) : Obj := ⟨Z, none, (.func (fn (s2 16 4) "BytesIO.closed" 0 [] Z Z Z Z none Z Z 0)), #[]⟩
noncomputable def o214 (P : Params) : Obj := ⟨(T "code"), none, (fd [(S "closed" 685), (S "BytesIO.closed" 686), (S "/claim/cut.py" 687), (I (74) 0), (I (1) 0), (I (0) 0), (I (0) 0), (I (3) 0), (R 171), (.bool true), (I (318) 0), (R 172), Z, (R 173), (R 174), (R 175), (I (689) 0), (I (74) 0), (S "/claim/cut.py" 690)]), #[]⟩
noncomputable def o215 (P : Params) : Obj := ⟨(T "function"), none, (.func (fn (s2 16 4) "BytesIO.closed" 3 [] Z Z Z (S "io" 537) none (R 176) Z 0)), #[]⟩
noncomputable def o216 (P : Params) : Obj := ⟨(T "property"), none, (fd [(R 177), Z, Z, Z, (S "closed" 692), (.bool false)]), #[]⟩
noncomputable def o217 (P : Params) : Obj := ⟨(T "tuple"), none, (sq [] 0), #[]⟩
noncomputable def o218 (P : Params) : Obj := ⟨Z, none, (fd []), #[]⟩
noncomputable def o219 (P : Params) : Obj := ⟨(T "tuple"), none, (sq [(S "self" 696)] 0), #[]⟩
noncomputable def o220 (P : Params) : Obj := ⟨(T "tuple"), none, (sq [] 0), #[]⟩
noncomputable def o221 (P : Params) : Obj := ⟨Z, none, (.func (fn (s2 16 5) "BytesIO.close" 0 [] Z Z Z Z none Z Z 0)), #[]⟩
noncomputable def o222 (P : Params) : Obj := ⟨(T "code"), none, (fd [(S "close" 693), (S "BytesIO.close" 694), (S "/claim/cut.py" 695), (I (78) 0), (I (1) 0), (I (0) 0), (I (0) 0), (I (3) 0), (R 179), (.bool true), (I (318) 0), (R 180), Z, (R 181), (R 182), (R 183), (I (697) 0), (I (78) 0), (S "/claim/cut.py" 698)]), #[]⟩
noncomputable def o223 (P : Params) : Obj := ⟨(T "function"), none, (.func (fn (s2 16 5) "BytesIO.close" 3 [] Z Z Z (S "io" 537) none (R 184) Z 0)), #[]⟩
noncomputable def o224 (P : Params) : Obj := ⟨(T "tuple"), none, (sq [] 0), #[]⟩
noncomputable def o225 (P : Params) : Obj := ⟨Z, none, (fd []), #[]⟩
noncomputable def o226 (P : Params) : Obj := ⟨(T "tuple"), none, (sq [(S "self" 703)] 0), #[]⟩
noncomputable def o227 (P : Params) : Obj := ⟨(T "tuple"), none, (sq [] 0), #[]⟩
noncomputable def o228 (P : Params) : Obj := ⟨Z, none, (.func (fn (s2 16 6) "BytesIO.__enter__" 0 [] Z Z Z Z none Z Z 0)), #[]⟩
noncomputable def o229 (P : Params) : Obj := ⟨(T "code"), none, (fd [(S "__enter__" 700), (S "BytesIO.__enter__" 701), (S "/claim/cut.py" 702), (I (81) 0), (I (1) 0), (I (0) 0), (I (0) 0), (I (3) 0), (R 186), (.bool true), (I (318) 0), (R 187), Z, (R 188), (R 189), (R 190), (I (704) 0), (I (81) 0), (S "/claim/cut.py" 705)]), #[]⟩
noncomputable def o230 (P : Params) : Obj := ⟨(T "function"), none, (.func (fn (s2 16 6) "BytesIO.__enter__" 3 [] Z Z Z (S "io" 537) none (R 191) Z 0)), #[]⟩
noncomputable def o231 (P : Params) : Obj := ⟨(T "tuple"), none, (sq [] 0), #[]⟩
noncomputable def o232 (P : Params) : Obj := ⟨Z, none, (fd []), #[]⟩
noncomputable def o233 (P : Params) : Obj := ⟨(T "tuple"), none, (sq [(S "self" 710), (S "args" 711)] 0), #[]⟩
noncomputable def o234 (P : Params) : Obj := ⟨(T "tuple"), none, (sq [] 0), #[]⟩
noncomputable def o235 (P : Params) : Obj := ⟨Z, none, (.func (fn (s2 16 7) "BytesIO.__exit__" 0 [] Z Z Z Z none Z Z 0)), #[]⟩
noncomputable def o236 (P : Params) : Obj := ⟨(T "code"), none, (fd [(S "__exit__" 707), (S "BytesIO.__exit__" 708), (S "/claim/cut.py" 709), (I (85) 0), (I (1) 0), (I (0) 0), (I (0) 0), (I (7) 0), (R 193), (.bool true), (I (318) 0), (R 194), Z, (R 195), (R 196), (R 197), (I (712) 0), (I (85) 0), (S "/claim/cut.py" 713)]), #[]⟩
noncomputable def o237 (P : Params) : Obj := ⟨(T "function"), none, (.func (fn (s2 16 7) "BytesIO.__exit__" 3 [] Z Z Z (S "io" 537) none (R 198) Z 0)), #[]⟩
noncomputable def o238 (P : Params) : Obj := ⟨(T "tuple"), none, (sq [] 0), #[]⟩
noncomputable def o239 (P : Params) : Obj := ⟨Z, none, (fd []), #[]⟩
noncomputable def o240 (P : Params) : Obj := ⟨(T "tuple"), none, (sq [(S "self" 718)] 0), #[]⟩
noncomputable def o241 (P : Params) : Obj := ⟨(T "tuple"), none, (sq [] 0), #[]⟩
noncomputable def o242 (P : Params) : Obj := ⟨Z, none, (.func (fn (s2 16 8) "BytesIO.readable" 0 [] Z Z Z Z none Z Z 0)), #[]⟩
noncomputable def o243 (P : Params) : Obj := ⟨(T "code"), none, (fd [(S "readable" 715), (S "BytesIO.readable" 716), (S "/claim/cut.py" 717), (I (88) 0), (I (1) 0), (I (0) 0), (I (0) 0), (I (3) 0), (R 200), (.bool true), (I (318) 0), (R 201), Z, (R 202), (R 203), (R 204), (I (719) 0), (I (88) 0), (S "/claim/cut.py" 720)]), #[]⟩
noncomputable def o244 (P : Params) : Obj := ⟨(T "function"), none, (.func (fn (s2 16 8) "BytesIO.readable" 3 [] Z Z Z (S "io" 537) none (R 205) Z 0)), #[]⟩
noncomputable def o245 (P : Params) : Obj := ⟨(T "tuple"), none, (sq [] 0), #[]⟩
noncomputable def o246 (P : Params) : Obj := ⟨Z, none, (fd []), #[]⟩
noncomputable def o247 (P : Params) : Obj := ⟨(T "tuple"), none, (sq [(S "self" 725)] 0), #[]⟩
noncomputable def o248 (P : Params) : Obj := ⟨(T "tuple"), none, (sq [] 0), #[]⟩
noncomputable def o249 (P : Params) : Obj := ⟨Z, none, (.func (fn (s2 16 9) "BytesIO.writable" 0 [] Z Z Z Z none Z Z 0)), #[]⟩
noncomputable def o250 (P : Params) : Obj := ⟨(T "code"), none, (fd [(S "writable" 722), (S "BytesIO.writable" 723), (S "/claim/cut.py" 724), (I (92) 0), (I (1) 0), (I (0) 0), (I (0) 0), (I (3) 0), (R 207), (.bool true), (I (318) 0), (R 208), Z, (R 209), (R 210), (R 211), (I (726) 0), (I (92) 0), (S "/claim/cut.py" 727)]), #[]⟩
noncomputable def o251 (P : Params) : Obj := ⟨(T "function"), none, (.func (fn (s2 16 9) "BytesIO.writable" 3 [] Z Z Z (S "io" 537) none (R 212) Z 0)), #[]⟩
noncomputable def o252 (P : Params) : Obj := ⟨(T "tuple"), none, (sq [] 0), #[]⟩
noncomputable def o253 (P : Params) : Obj := ⟨Z, none, (fd []), #[]⟩
noncomputable def o254 (P : Params) : Obj := ⟨(T "tuple"), none, (sq [(S "self" 732)] 0), #[]⟩
noncomputable def o255 (P : Params) : Obj := ⟨(T "tuple"), none, (sq [] 0), #[]⟩
noncomputable def o256 (P : Params) : Obj := ⟨Z, none, (.func (fn (s2 16 10) "BytesIO.seekable" 0 [] Z Z Z Z none Z Z 0)), #[]⟩
noncomputable def o257 (P : Params) : Obj := ⟨(T "code"), none, (fd [(S "seekable" 729), (S "BytesIO.seekable" 730), (S "/claim/cut.py" 731), (I (96) 0), (I (1) 0), (I (0) 0), (I (0) 0), (I (3) 0), (R 214), (.bool true), (I (318) 0), (R 215), Z, (R 216), (R 217), (R 218), (I (733) 0), (I (96) 0), (S "/claim/cut.py" 734)]), #[]⟩
noncomputable def o258 (P : Params) : Obj := ⟨(T "function"), none, (.func (fn (s2 16 10) "BytesIO.seekable" 3 [] Z Z Z (S "io" 537) none (R 219) Z 0)), #[]⟩
noncomputable def o259 (P : Params) : Obj := ⟨(T "tuple"), none, (sq [] 0), #[]⟩
noncomputable def o260 (P : Params) : Obj := ⟨Z, none, (fd []), #[]⟩
noncomputable def o261 (P : Params) : Obj := ⟨(T "tuple"), none, (sq [(S "self" 739)] 0), #[]⟩
noncomputable def o262 (P : Params) : Obj := ⟨(T "tuple"), none, (sq [] 0), #[]⟩
noncomputable def o263 (P : Params) : Obj := ⟨Z, none, (.func (fn (s2 16 11) "BytesIO.isatty" 0 [] Z Z Z Z none Z Z 0)), #[]⟩
noncomputable def o264 (P : Params) : Obj := ⟨(T "code"), none, (fd [(S "isatty" 736), (S "BytesIO.isatty" 737), (S "/claim/cut.py" 738), (I (100) 0), (I (1) 0), (I (0) 0), (I (0) 0), (I (3) 0), (R 221), (.bool true), (I (318) 0), (R 222), Z, (R 223), (R 224), (R 225), (I (740) 0), (I (100) 0), (S "/claim/cut.py" 741)]), #[]⟩
noncomputable def o265 (P : Params) : Obj := ⟨(T "function"), none, (.func (fn (s2 16 11) "BytesIO.isatty" 3 [] Z Z Z (S "io" 537) none (R 226) Z 0)), #[]⟩
noncomputable def o266 (P : Params) : Obj := ⟨(T "tuple"), none, (sq [] 0), #[]⟩
noncomputable def o267 (P : Params) : Obj := ⟨Z, none, (fd []), #[]⟩
noncomputable def o268 (P : Params) : Obj := ⟨(T "tuple"), none, (sq [(S "self" 746)] 0), #[]⟩
noncomputable def o269 (P : Params) : Obj := ⟨(T "tuple"), none, (sq [] 0), #[]⟩
noncomputable def o270 (P : Params) : Obj := ⟨Z, none, (.func (fn (s2 16 12) "BytesIO.flush" 0 [] Z Z Z Z none Z Z 0)), #[]⟩
noncomputable def o271 (P : Params) : Obj := ⟨(T "code"), none, (fd [(S "flush" 743), (S "BytesIO.flush" 744), (S "/claim/cut.py" 745), (I (104) 0), (I (1) 0), (I (0) 0), (I (0) 0), (I (3) 0), (R 228), (.bool true), (I (318) 0), (R 229), Z, (R 230), (R 231), (R 232), (I (747) 0), (I (104) 0), (S "/claim/cut.py" 748)]), #[]⟩
noncomputable def o272 (P : Params) : Obj := ⟨(T "function"), none, (.func (fn (s2 16 12) "BytesIO.flush" 3 [] Z Z Z (S "io" 537) none (R 233) Z 0)), #[]⟩
noncomputable def o273 (P : Params) : Obj := ⟨(T "tuple"), none, (sq [] 0), #[]⟩
noncomputable def o274 (P : Params) : Obj := ⟨Z, none, (fd []), #[]⟩
noncomputable def o275 (P : Params) : Obj := ⟨(T "tuple"), none, (sq [(S "self" 753)] 0), #[]⟩
noncomputable def o276 (P : Params) : Obj := ⟨(T "tuple"), none, (sq [] 0), #[]⟩
noncomputable def o277 (P : Params) : Obj := ⟨Z, none, (.func (fn (s2 16 13) "BytesIO.fileno" 0 [] Z Z Z Z none Z Z 0)), #[]⟩
noncomputable def o278 (P : Params) : Obj := ⟨(T "code"), none, (fd [(S "fileno" 750), (S "BytesIO.fileno" 751), (S "/claim/cut.py" 752), (I (107) 0), (I (1) 0), (I (0) 0), (I (0) 0), (I (3) 0), (R 235), (.bool true), (I (318) 0), (R 236), Z, (R 237), (R 238), (R 239), (I (754) 0), (I (107) 0), (S "/claim/cut.py" 755)]), #[]⟩
noncomputable def o279 (P : Params) : Obj := ⟨(T "function"), none, (.func (fn (s2 16 13) "BytesIO.fileno" 3 [] Z Z Z (S "io" 537) none (R 240) Z 0)), #[]⟩
noncomputable def o280 (P : Params) : Obj := ⟨(T "tuple"), none, (sq [] 0), #[]⟩
noncomputable def o281 (P : Params) : Obj := ⟨Z, none, (fd []), #[]⟩
noncomputable def o282 (P : Params) : Obj := ⟨(T "tuple"), none, (sq [(S "self" 760)] 0), #[]⟩
noncomputable def o283 (P : Params) : Obj := ⟨(T "tuple"), none, (sq [] 0), #[]⟩
noncomputable def o284 (P : Params) : Obj := ⟨Z, none, (.func (fn (s2 16 14) "BytesIO.detach" 0 [] Z Z Z Z none Z Z 0)), #[]⟩
noncomputable def o285 (P : Params) : Obj := ⟨(T "code"), none, (fd [(S "detach" 757), (S "BytesIO.detach" 758), (S "/claim/cut.py" 759), (I (110) 0), (I (1) 0), (I (0) 0), (I (0) 0), (I (3) 0), (R 242), (.bool true), (I (318) 0), (R 243), Z, (R 244), (R 245), (R 246), (I (761) 0), (I (110) 0), (S "/claim/cut.py" 762)]), #[]⟩
noncomputable def o286 (P : Params) : Obj := ⟨(T "function"), none, (.func (fn (s2 16 14) "BytesIO.detach" 3 [] Z Z Z (S "io" 537) none (R 247) Z 0)), #[]⟩
noncomputable def o287 (P : Params) : Obj := ⟨(T "tuple"), none, (sq [] 0), #[]⟩
noncomputable def o288 (P : Params) : Obj := ⟨Z, none, (fd []), #[]⟩
noncomputable def o289 (P : Params) : Obj := ⟨(T "tuple"), none, (sq [(S "self" 767)] 0), #[]⟩
noncomputable def o290 (P : Params) : Obj := ⟨(T "tuple"), none, (sq [] 0), #[]⟩
noncomputable def o291 (P : Params) : Obj := ⟨Z, none, (.func (fn (s2 16 15) "BytesIO.getvalue" 0 [] Z Z Z Z none Z Z 0)), #[]⟩
noncomputable def o292 (P : Params) : Obj := ⟨(T "code"), none, (fd [(S "getvalue" 764), (S "BytesIO.getvalue" 765), (S "/claim/cut.py" 766), (I (113) 0), (I (1) 0), (I (0) 0), (I (0) 0), (I (3) 0), (R 249), (.bool true), (I (318) 0), (R 250), Z, (R 251), (R 252), (R 253), (I (768) 0), (I (113) 0), (S "/claim/cut.py" 769)]), #[]⟩
noncomputable def o293 (P : Params) : Obj := ⟨(T "function"), none, (.func (fn (s2 16 15) "BytesIO.getvalue" 3 [] Z Z Z (S "io" 537) none (R 254) Z 0)), #[]⟩
noncomputable def o294 (P : Params) : Obj := ⟨(T "tuple"), none, (sq [] 0), #[]⟩
noncomputable def o295 (P : Params) : Obj := ⟨Z, none, (fd []), #[]⟩
noncomputable def o296 (P : Params) : Obj := ⟨(T "tuple"), none, (sq [(S "self" 774)] 0), #[]⟩
noncomputable def o297 (P : Params) : Obj := ⟨(T "tuple"), none, (sq [] 0), #[]⟩
noncomputable def o298 (P : Params) : Obj := ⟨Z, none, (.func (fn (s2 16 16) "BytesIO.getbuffer" 0 [] Z Z Z Z none Z Z 0)), #[]⟩
noncomputable def o299 (P : Params) : Obj := ⟨(T "code"), none, (fd [(S "getbuffer" 771), (S "BytesIO.getbuffer" 772), (S "/claim/cut.py" 773), (I (116) 0), (I (1) 0), (I (0) 0), (I (0) 0), (I (3) 0), (R 256), (.bool true), (I (318) 0), (R 257), Z, (R 258), (R 259), (R 260), (I (775) 0), (I (116) 0), (S "/claim/cut.py" 776)]), #[]⟩
noncomputable def o300 (P : Params) : Obj := ⟨(T "function"), none, (.func (fn (s2 16 16) "BytesIO.getbuffer" 3 [] Z Z Z (S "io" 537) none (R 261) Z 0)), #[]⟩
noncomputable def o301 (P : Params) : Obj := ⟨(T "tuple"), none, (sq [] 0), #[]⟩
noncomputable def o302 (P : Params) : Obj := ⟨Z, none, (fd []), #[]⟩
noncomputable def o303 (P : Params) : Obj := ⟨(T "tuple"), none, (sq [(S "self" 781)] 0), #[]⟩
noncomputable def o304 (P : Params) : Obj := ⟨(T "tuple"), none, (sq [] 0), #[]⟩
noncomputable def o305 (P : Params) : Obj := ⟨Z, none, (.func (fn (s2 16 17) "BytesIO.tell" 0 [] Z Z Z Z none Z Z 0)), #[]⟩
noncomputable def o306 (P : Params) : Obj := ⟨(T "code"), none, (fd [(S "tell" 778), (S "BytesIO.tell" 779), (S "/claim/cut.py" 780), (I (119) 0), (I (1) 0), (I (0) 0), (I (0) 0), (I (3) 0), (R 263), (.bool true), (I (318) 0), (R 264), Z, (R 265), (R 266), (R 267), (I (782) 0), (I (119) 0), (S "/claim/cut.py" 783)]), #[]⟩
noncomputable def o307 (P : Params) : Obj := ⟨(T "function"), none, (.func (fn (s2 16 17) "BytesIO.tell" 3 [] Z Z Z (S "io" 537) none (R 268) Z 0)), #[]⟩
noncomputable def o308 (P : Params) : Obj := ⟨(T "tuple"), none, (sq [(I (0) 785)] 0), #[]⟩
noncomputable def o309 (P : Params) : Obj := ⟨(T "tuple"), none, (sq [] 0), #[]⟩
noncomputable def o310 (P : Params) : Obj := ⟨Z, none, (fd []), #[]⟩
noncomputable def o311 (P : Params) : Obj := ⟨(T "tuple"), none, (sq [(S "self" 789), (S "pos" 790), (S "whence" 791)] 0), #[]⟩
noncomputable def o312 (P : Params) : Obj := ⟨(T "tuple"), none, (sq [] 0), #[]⟩
noncomputable def o313 (P : Params) : Obj := ⟨Z, none, (.func (fn (s2 16 18) "BytesIO.seek" 0 [] Z Z Z Z none Z Z 0)), #[]⟩
noncomputable def o314 (P : Params) : Obj := ⟨(T "code"), none, (fd [(S "seek" 786), (S "BytesIO.seek" 787), (S "/claim/cut.py" 788), (I (123) 0), (I (3) 0), (I (3) 0), (I (0) 0), (I (3) 0), (R 271), (.bool true), (I (318) 0), (R 272), Z, (R 273), (R 274), (R 275), (I (792) 0), (I (123) 0), (S "/claim/cut.py" 793)]), #[]⟩
noncomputable def o315 (P : Params) : Obj := ⟨(T "function"), none, (.func (fn (s2 16 18) "BytesIO.seek" 3 [] (R 270) Z Z (S "io" 537) none (R 276) Z 0)), #[]⟩
noncomputable def o316 (P : Params) : Obj := ⟨(T "tuple"), none, (sq [Z] 0), #[]⟩
noncomputable def o317 (P : Params) : Obj := ⟨(T "tuple"), none, (sq [] 0), #[]⟩
noncomputable def o318 (P : Params) : Obj := ⟨Z, none, (fd []), #[]⟩
noncomputable def o319 (P : Params) : Obj := ⟨(T "tuple"), none, (sq [(S "self" 798), (S "size" 799)] 0), #[]⟩
noncomputable def o320 (P : Params) : Obj := ⟨(T "tuple"), none, (sq [] 0), #[]⟩
noncomputable def o321 (P : Params) : Obj := ⟨Z, none, (.func (fn (s2 16 19) "BytesIO.truncate" 0 [] Z Z Z Z none Z Z 0)), #[]⟩
noncomputable def o322 (P : Params) : Obj := ⟨(T "code"), none, (fd [(S "truncate" 795), (S "BytesIO.truncate" 796), (S "/claim/cut.py" 797), (I (140) 0), (I (2) 0), (I (2) 0), (I (0) 0), (I (3) 0), (R 279), (.bool true), (I (318) 0), (R 280), Z, (R 281), (R 282), (R 283), (I (800) 0), (I (140) 0), (S "/claim/cut.py" 801)]), #[]⟩
noncomputable def o323 (P : Params) : Obj := ⟨(T "function"), none, (.func (fn (s2 16 19) "BytesIO.truncate" 3 [] (R 278) Z Z (S "io" 537) none (R 284) Z 0)), #[]⟩
noncomputable def o324 (P : Params) : Obj := ⟨(T "tuple"), none, (sq [(I (-1) 804)] 0), #[]⟩
noncomputable def o325 (P : Params) : Obj := ⟨(T "tuple"), none, (sq [] 0), #[]⟩
noncomputable def o326 (P : Params) : Obj := ⟨Z, none, (fd []), #[]⟩
noncomputable def o327 (P : Params) : Obj := ⟨(T "tuple"), none, (sq [(S "self" 808), (S "size" 809), (S "start" 810), (S "stop" 811)] 0), #[]⟩
noncomputable def o328 (P : Params) : Obj := ⟨(T "tuple"), none, (sq [] 0), #[]⟩
noncomputable def o329 (P : Params) : Obj := ⟨Z, none, (.func (fn (s2 16 20) "BytesIO.read" 0 [] Z Z Z Z none Z Z 0)), #[]⟩
noncomputable def o330 (P : Params) : Obj := ⟨(T "code"), none, (fd [(S "read" 805), (S "BytesIO.read" 806), (S "/claim/cut.py" 807), (I (143) 0), (I (2) 0), (I (2) 0), (I (0) 0), (I (3) 0), (R 287), (.bool true), (I (318) 0), (R 288), Z, (R 289), (R 290), (R 291), (I (812) 0), (I (143) 0), (S "/claim/cut.py" 813)]), #[]⟩
noncomputable def o331 (P : Params) : Obj := ⟨(T "function"), none, (.func (fn (s2 16 20) "BytesIO.read" 3 [] (R 286) Z Z (S "io" 537) none (R 292) Z 0)), #[]⟩
noncomputable def o332 (P : Params) : Obj := ⟨(T "tuple"), none, (sq [(I (-1) 816)] 0), #[]⟩
noncomputable def o333 (P : Params) : Obj := ⟨(T "tuple"), none, (sq [] 0), #[]⟩
noncomputable def o334 (P : Params) : Obj := ⟨Z, none, (fd []), #[]⟩
noncomputable def o335 (P : Params) : Obj := ⟨(T "tuple"), none, (sq [(S "self" 820), (S "size" 821)] 0), #[]⟩
noncomputable def o336 (P : Params) : Obj := ⟨(T "tuple"), none, (sq [] 0), #[]⟩
noncomputable def o337 (P : Params) : Obj := ⟨Z, none, (.func (fn (s2 16 21) "BytesIO.read1" 0 [] Z Z Z Z none Z Z 0)), #[]⟩
noncomputable def o338 (P : Params) : Obj := ⟨(T "code"), none, (fd [(S "read1" 817), (S "BytesIO.read1" 818), (S "/claim/cut.py" 819), (I (157) 0), (I (2) 0), (I (2) 0), (I (0) 0), (I (3) 0), (R 295), (.bool true), (I (318) 0), (R 296), Z, (R 297), (R 298), (R 299), (I (822) 0), (I (157) 0), (S "/claim/cut.py" 823)]), #[]⟩
noncomputable def o339 (P : Params) : Obj := ⟨(T "function"), none, (.func (fn (s2 16 21) "BytesIO.read1" 3 [] (R 294) Z Z (S "io" 537) none (R 300) Z 0)), #[]⟩
noncomputable def o340 (P : Params) : Obj := ⟨(T "tuple"), none, (sq [] 0), #[]⟩
noncomputable def o341 (P : Params) : Obj := ⟨Z, none, (fd []), #[]⟩
noncomputable def o342 (P : Params) : Obj := ⟨(T "tuple"), none, (sq [(S "self" 828), (S "buffer" 829), (S "start" 830), (S "n" 831)] 0), #[]⟩
noncomputable def o343 (P : Params) : Obj := ⟨(T "tuple"), none, (sq [] 0), #[]⟩
noncomputable def o344 (P : Params) : Obj := ⟨Z, none, (.func (fn (s2 16 22) "BytesIO.readinto" 0 [] Z Z Z Z none Z Z 0)), #[]⟩
noncomputable def o345 (P : Params) : Obj := ⟨(T "code"), none, (fd [(S "readinto" 825), (S "BytesIO.readinto" 826), (S "/claim/cut.py" 827), (I (160) 0), (I (2) 0), (I (2) 0), (I (0) 0), (I (3) 0), (R 302), (.bool true), (I (318) 0), (R 303), Z, (R 304), (R 305), (R 306), (I (832) 0), (I (160) 0), (S "/claim/cut.py" 833)]), #[]⟩
noncomputable def o346 (P : Params) : Obj := ⟨(T "function"), none, (.func (fn (s2 16 22) "BytesIO.readinto" 3 [] Z Z Z (S "io" 537) none (R 307) Z 0)), #[]⟩
noncomputable def o347 (P : Params) : Obj := ⟨(T "tuple"), none, (sq [] 0), #[]⟩
noncomputable def o348 (P : Params) : Obj := ⟨Z, none, (fd []), #[]⟩
noncomputable def o349 (P : Params) : Obj := ⟨(T "tuple"), none, (sq [(S "self" 838), (S "buffer" 839)] 0), #[]⟩
noncomputable def o350 (P : Params) : Obj := ⟨(T "tuple"), none, (sq [] 0), #[]⟩
noncomputable def o351 (P : Params) : Obj := ⟨Z, none, (.func (fn (s2 16 23) "BytesIO.readinto1" 0 [] Z Z Z Z none Z Z 0)), #[]⟩
noncomputable def o352 (P : Params) : Obj := ⟨(T "code"), none, (fd [(S "readinto1" 835), (S "BytesIO.readinto1" 836), (S "/claim/cut.py" 837), (I (174) 0), (I (2) 0), (I (2) 0), (I (0) 0), (I (3) 0), (R 309), (.bool true), (I (318) 0), (R 310), Z, (R 311), (R 312), (R 313), (I (840) 0), (I (174) 0), (S "/claim/cut.py" 841)]), #[]⟩
noncomputable def o353 (P : Params) : Obj := ⟨(T "function"), none, (.func (fn (s2 16 23) "BytesIO.readinto1" 3 [] Z Z Z (S "io" 537) none (R 314) Z 0)), #[]⟩
noncomputable def o354 (P : Params) : Obj := ⟨(T "tuple"), none, (sq [(I (-1) 844)] 0), #[]⟩
noncomputable def o355 (P : Params) : Obj := ⟨(T "tuple"), none, (sq [] 0), #[]⟩
noncomputable def o356 (P : Params) : Obj := ⟨Z, none, (fd []), #[]⟩
noncomputable def o357 (P : Params) : Obj := ⟨(T "tuple"), none, (sq [(S "self" 848), (S "size" 849)] 0), #[]⟩
noncomputable def o358 (P : Params) : Obj := ⟨(T "tuple"), none, (sq [] 0), #[]⟩
noncomputable def o359 (P : Params) : Obj := ⟨Z, none, (.func (fn (s2 16 24) "BytesIO.readline" 0 [] Z Z Z Z none Z Z 0)), #[]⟩
noncomputable def o360 (P : Params) : Obj := ⟨(T "code"), none, (fd [(S "readline" 845), (S "BytesIO.readline" 846), (S "/claim/cut.py" 847), (I (177) 0), (I (2) 0), (I (2) 0), (I (0) 0), (I (3) 0), (R 317), (.bool true), (I (318) 0), (R 318), Z, (R 319), (R 320), (R 321), (I (850) 0), (I (177) 0), (S "/claim/cut.py" 851)]), #[]⟩
noncomputable def o361 (P : Params) : Obj := ⟨(T "function"), none, (.func (fn (s2 16 24) "BytesIO.readline" 3 [] (R 316) Z Z (S "io" 537) none (R 322) Z 0)), #[]⟩
noncomputable def o362 (P : Params) : Obj := ⟨(T "tuple"), none, (sq [Z] 0), #[]⟩
noncomputable def o363 (P : Params) : Obj := ⟨(T "tuple"), none, (sq [] 0), #[]⟩
noncomputable def o364 (P : Params) : Obj := ⟨Z, none, (fd []), #[]⟩
noncomputable def o365 (P : Params) : Obj := ⟨(T "tuple"), none, (sq [(S "self" 856), (S "size" 857)] 0), #[]⟩
noncomputable def o366 (P : Params) : Obj := ⟨(T "tuple"), none, (sq [] 0), #[]⟩
noncomputable def o367 (P : Params) : Obj := ⟨Z, none, (.func (fn (s2 16 25) "BytesIO.readlines" 0 [] Z Z Z Z none Z Z 0)), #[]⟩
noncomputable def o368 (P : Params) : Obj := ⟨(T "code"), none, (fd [(S "readlines" 853), (S "BytesIO.readlines" 854), (S "/claim/cut.py" 855), (I (184) 0), (I (2) 0), (I (2) 0), (I (0) 0), (I (3) 0), (R 325), (.bool true), (I (318) 0), (R 326), Z, (R 327), (R 328), (R 329), (I (858) 0), (I (184) 0), (S "/claim/cut.py" 859)]), #[]⟩
noncomputable def o369 (P : Params) : Obj := ⟨(T "function"), none, (.func (fn (s2 16 25) "BytesIO.readlines" 3 [] (R 324) Z Z (S "io" 537) none (R 330) Z 0)), #[]⟩
noncomputable def o370 (P : Params) : Obj := ⟨(T "tuple"), none, (sq [] 0), #[]⟩
noncomputable def o371 (P : Params) : Obj := ⟨Z, none, (fd []), #[]⟩
noncomputable def o372 (P : Params) : Obj := ⟨(T "tuple"), none, (sq [(S "self" 864)] 0), #[]⟩
noncomputable def o373 (P : Params) : Obj := ⟨(T "tuple"), none, (sq [] 0), #[]⟩
noncomputable def o374 (P : Params) : Obj := ⟨Z, none, (.func (fn (s2 16 26) "BytesIO.__iter__" 0 [] Z Z Z Z none Z Z 0)), #[]⟩
noncomputable def o375 (P : Params) : Obj := ⟨(T "code"), none, (fd [(S "__iter__" 861), (S "BytesIO.__iter__" 862), (S "/claim/cut.py" 863), (I (187) 0), (I (1) 0), (I (0) 0), (I (0) 0), (I (3) 0), (R 332), (.bool true), (I (318) 0), (R 333), Z, (R 334), (R 335), (R 336), (I (865) 0), (I (187) 0), (S "/claim/cut.py" 866)]), #[]⟩
noncomputable def o376 (P : Params) : Obj := ⟨(T "function"), none, (.func (fn (s2 16 26) "BytesIO.__iter__" 3 [] Z Z Z (S "io" 537) none (R 337) Z 0)), #[]⟩
noncomputable def o377 (P : Params) : Obj := ⟨(T "tuple"), none, (sq [] 0), #[]⟩
noncomputable def o378 (P : Params) : Obj := ⟨Z, none, (fd []), #[]⟩
noncomputable def o379 (P : Params) : Obj := ⟨(T "tuple"), none, (sq [(S "self" 871), (S "line" 872)] 0), #[]⟩
noncomputable def o380 (P : Params) : Obj := ⟨(T "tuple"), none, (sq [] 0), #[]⟩
noncomputable def o381 (P : Params) : Obj := ⟨Z, none, (.func (fn (s2 16 27) "BytesIO.__next__" 0 [] Z Z Z Z none Z Z 0)), #[]⟩
noncomputable def o382 (P : Params) : Obj := ⟨(T "code"), none, (fd [(S "__next__" 868), (S "BytesIO.__next__" 869), (S "/claim/cut.py" 870), (I (190) 0), (I (1) 0), (I (0) 0), (I (0) 0), (I (3) 0), (R 339), (.bool true), (I (318) 0), (R 340), Z, (R 341), (R 342), (R 343), (I (873) 0), (I (190) 0), (S "/claim/cut.py" 874)]), #[]⟩
noncomputable def o383 (P : Params) : Obj := ⟨(T "function"), none, (.func (fn (s2 16 27) "BytesIO.__next__" 3 [] Z Z Z (S "io" 537) none (R 344) Z 0)), #[]⟩
noncomputable def o384 (P : Params) : Obj := ⟨(T "tuple"), none, (sq [] 0), #[]⟩
noncomputable def o385 (P : Params) : Obj := ⟨Z, none, (fd []), #[]⟩
noncomputable def o386 (P : Params) : Obj := ⟨(T "tuple"), none, (sq [(S "self" 879), (S "b" 880), (S "n" 881), (S "start" 882)] 0), #[]⟩
noncomputable def o387 (P : Params) : Obj := ⟨(T "tuple"), none, (sq [] 0), #[]⟩
noncomputable def o388 (P : Params) : Obj := ⟨Z, none, (.func (fn (s2 16 28) "BytesIO.write" 0 [] Z Z Z Z none Z Z 0)), #[]⟩
noncomputable def o389 (P : Params) : Obj := ⟨(T "code"), none, (fd [(S "write" 876), (S "BytesIO.write" 877), (S "/claim/cut.py" 878), (I (197) 0), (I (2) 0), (I (2) 0), (I (0) 0), (I (3) 0), (R 346), (.bool true), (I (318) 0), (R 347), Z, (R 348), (R 349), (R 350), (I (883) 0), (I (197) 0), (S "/claim/cut.py" 884)]), #[]⟩
noncomputable def o390 (P : Params) : Obj := ⟨(T "function"), none, (.func (fn (s2 16 28) "BytesIO.write" 3 [] Z Z Z (S "io" 537) none (R 351) Z 0)), #[]⟩
noncomputable def o391 (P : Params) : Obj := ⟨(T "tuple"), none, (sq [] 0), #[]⟩
noncomputable def o392 (P : Params) : Obj := ⟨Z, none, (fd []), #[]⟩
noncomputable def o393 (P : Params) : Obj := ⟨(T "tuple"), none, (sq [(S "self" 889), (S "lines" 890)] 0), #[]⟩
noncomputable def o394 (P : Params) : Obj := ⟨(T "tuple"), none, (sq [] 0), #[]⟩
noncomputable def o395 (P : Params) : Obj := ⟨Z, none, (.func (fn (s2 16 29) "BytesIO.writelines" 0 [] Z Z Z Z none Z Z 0)), #[]⟩
noncomputable def o396 (P : Params) : Obj := ⟨(T "code"), none, (fd [(S "writelines" 886), (S "BytesIO.writelines" 887), (S "/claim/cut.py" 888), (I (213) 0), (I (2) 0), (I (2) 0), (I (0) 0), (I (3) 0), (R 353), (.bool true), (I (318) 0), (R 354), Z, (R 355), (R 356), (R 357), (I (891) 0), (I (213) 0), (S "/claim/cut.py" 892)]), #[]⟩
noncomputable def o397 (P : Params) : Obj := ⟨(T "function"), none, (.func (fn (s2 16 29) "BytesIO.writelines" 3 [] Z Z Z (S "io" 537) none (R 358) Z 0)), #[]⟩
noncomputable def o398 (P : Params) : Obj := ⟨(T "tuple"), none, (sq [] 0), #[]⟩
noncomputable def o399 (P : Params) : Obj := ⟨Z, none, (fd []), #[]⟩
noncomputable def o400 (P : Params) : Obj := ⟨(T "tuple"), none, (sq [(S "self" 897)] 0), #[]⟩
noncomputable def o401 (P : Params) : Obj := ⟨(T "tuple"), none, (sq [] 0), #[]⟩
noncomputable def o402 (P : Params) : Obj := ⟨Z, none, (.func (fn (s2 16 30) "BytesIO.__repr__" 0 [] Z Z Z Z none Z Z 0)), #[]⟩
noncomputable def o403 (P : Params) : Obj := ⟨(T "code"), none, (fd [(S "__repr__" 894), (S "BytesIO.__repr__" 895), (S "/claim/cut.py" 896), (I (216) 0), (I (1) 0), (I (0) 0), (I (0) 0), (I (3) 0), (R 360), (.bool true), (I (318) 0), (R 361), Z, (R 362), (R 363), (R 364), (I (898) 0), (I (216) 0), (S "/claim/cut.py" 899)]), #[]⟩
noncomputable def o404 (P : Params) : Obj := ⟨(T "function"), none, (.func (fn (s2 16 30) "BytesIO.__repr__" 3 [] Z Z Z (S "io" 537) none (R 365) Z 0)), #[]⟩
noncomputable def o405 (P : Params) : Obj := ⟨(T "tuple"), none, (sq [(S "__buf" 901), (S "__pos" 902)] 0), #[]⟩
noncomputable def o406 (P : Params) : Obj := ⟨(T "dict"), none, (dc [E P "__module__" 652 (S "_io" 657), E P "__firstlineno__" 656 (I (48) 655), E P "__init__" 666 (R 156), E P "_BytesIO__check" 673 (R 163), E P "_BytesIO__line" 684 (R 170), E P "closed" 692 (R 178), E P "close" 699 (R 185), E P "__enter__" 706 (R 192), E P "__exit__" 714 (R 199), E P "readable" 721 (R 206), E P "writable" 728 (R 213), E P "seekable" 735 (R 220), E P "isatty" 742 (R 227), E P "flush" 749 (R 234), E P "fileno" 756 (R 241), E P "detach" 763 (R 248), E P "getvalue" 770 (R 255), E P "getbuffer" 777 (R 262), E P "tell" 784 (R 269), E P "seek" 794 (R 277), E P "truncate" 802 (R 285), E P "read" 814 (R 293), E P "read1" 824 (R 301), E P "readinto" 834 (R 308), E P "readinto1" 842 (R 315), E P "readline" 852 (R 323), E P "readlines" 860 (R 331), E P "__iter__" 867 (R 338), E P "__next__" 875 (R 345), E P "write" 885 (R 352), E P "writelines" 893 (R 359), E P "__repr__" 900 (R 366), E P "__static_attributes__" 903 (R 367), E P "__doc__" 904 Z] 2), #[]⟩
noncomputable def o407 (P : Params) : Obj := ⟨(T "type"), none, (.cls ⟨S0 "BytesIO", [(R 127)], [(R 369), (R 127), (R 112), (T "object")], 368, S0 "BytesIO", true, [], [], false, none, false⟩), #[(some (R 142)), none, (some (S "BytesIO" 645)), (some (S "BytesIO" 653)), (some Z), (some (.bool true))]⟩
noncomputable def o408 (P : Params) : Obj := ⟨(T "super"), none, (fd [(R 369), (R 369), (R 369)]), #[]⟩
noncomputable def o409 (P : Params) : Obj := ⟨(T "builtin_function_or_method"), none, (fd [(B "object.__init_subclass__"), (R 369)]), #[]⟩
noncomputable abbrev life_g2 : Life := { }
noncomputable abbrev drawn_g2 : Drawn := { }
noncomputable abbrev gens_g2 : Array GenState := #[]
noncomputable abbrev toks_g2 : Nat := 907
noncomputable def tree_g2 (P : Params) : BT := (N (o34 P) (N (o35 P) (N (o177 P) (N (o40 P) (N (o47 P) (N (o31 P) (N (o95 P) (N (o179 P) (N (o293 P) L L) L) (N (o229 P) (N (o357 P) L L) L)) (N (o130 P) (N (o197 P) (N (o325 P) L L) L) (N (o261 P) (N (o389 P) L L) L))) (N (o79 P) (N (o111 P) (N (o181 P) (N (o309 P) L L) L) (N (o245 P) (N (o373 P) L L) L)) (N (o146 P) (N (o213 P) (N (o341 P) L L) L) (N (o277 P) (N (o405 P) L L) L)))) (N (o54 P) (N (o71 P) (N (o103 P) (N (o170 P) (N (o301 P) L L) L) (N (o237 P) (N (o365 P) L L) L)) (N (o138 P) (N (o205 P) (N (o333 P) L L) L) (N (o269 P) (N (o397 P) L L) L))) (N (o87 P) (N (o122 P) (N (o189 P) (N (o317 P) L L) L) (N (o253 P) (N (o381 P) L L) L)) (N (o154 P) (N (o221 P) (N (o349 P) L L) L) (N (o285 P) L L))))) (N (o43 P) (N (o19 P) (N (o178 P) (N (o99 P) (N (o166 P) (N (o297 P) L L) L) (N (o233 P) (N (o361 P) L L) L)) (N (o134 P) (N (o201 P) (N (o329 P) L L) L) (N (o265 P) (N (o393 P) L L) L))) (N (o83 P) (N (o118 P) (N (o185 P) (N (o313 P) L L) L) (N (o249 P) (N (o377 P) L L) L)) (N (o150 P) (N (o217 P) (N (o345 P) L L) L) (N (o281 P) (N (o409 P) L L) L)))) (N (o58 P) (N (o75 P) (N (o107 P) (N (o174 P) (N (o305 P) L L) L) (N (o241 P) (N (o369 P) L L) L)) (N (o142 P) (N (o209 P) (N (o337 P) L L) L) (N (o273 P) (N (o401 P) L L) L))) (N (o91 P) (N (o126 P) (N (o193 P) (N (o321 P) L L) L) (N (o257 P) (N (o385 P) L L) L)) (N (o158 P) (N (o225 P) (N (o353 P) L L) L) (N (o289 P) L L)))))) (N (o39 P) (N (o41 P) (N (o49 P) (N (o63 P) (N (o97 P) (N (o164 P) (N (o295 P) L L) L) (N (o231 P) (N (o359 P) L L) L)) (N (o132 P) (N (o199 P) (N (o327 P) L L) L) (N (o263 P) (N (o391 P) L L) L))) (N (o81 P) (N (o113 P) (N (o183 P) (N (o311 P) L L) L) (N (o247 P) (N (o375 P) L L) L)) (N (o148 P) (N (o215 P) (N (o343 P) L L) L) (N (o279 P) (N (o407 P) L L) L)))) (N (o56 P) (N (o73 P) (N (o105 P) (N (o172 P) (N (o303 P) L L) L) (N (o239 P) (N (o367 P) L L) L)) (N (o140 P) (N (o207 P) (N (o335 P) L L) L) (N (o271 P) (N (o399 P) L L) L))) (N (o89 P) (N (o124 P) (N (o191 P) (N (o319 P) L L) L) (N (o255 P) (N (o383 P) L L) L)) (N (o156 P) (N (o223 P) (N (o351 P) L L) L) (N (o287 P) L L))))) (N (o45 P) (N (o52 P) (N (o67 P) (N (o101 P) (N (o168 P) (N (o299 P) L L) L) (N (o235 P) (N (o363 P) L L) L)) (N (o136 P) (N (o203 P) (N (o331 P) L L) L) (N (o267 P) (N (o395 P) L L) L))) (N (o85 P) (N (o120 P) (N (o187 P) (N (o315 P) L L) L) (N (o251 P) (N (o379 P) L L) L)) (N (o152 P) (N (o219 P) (N (o347 P) L L) L) (N (o283 P) L L)))) (N (o60 P) (N (o77 P) (N (o109 P) (N (o176 P) (N (o307 P) L L) L) (N (o243 P) (N (o371 P) L L) L)) (N (o144 P) (N (o211 P) (N (o339 P) L L) L) (N (o275 P) (N (o403 P) L L) L))) (N (o93 P) (N (o128 P) (N (o195 P) (N (o323 P) L L) L) (N (o259 P) (N (o387 P) L L) L)) (N (o160 P) (N (o227 P) (N (o355 P) L L) L) (N (o291 P) L L))))))) (N (o115 P) (N (o38 P) (N (o8 P) (N (o48 P) (N (o62 P) (N (o96 P) (N (o163 P) (N (o294 P) L L) L) (N (o230 P) (N (o358 P) L L) L)) (N (o131 P) (N (o198 P) (N (o326 P) L L) L) (N (o262 P) (N (o390 P) L L) L))) (N (o80 P) (N (o112 P) (N (o182 P) (N (o310 P) L L) L) (N (o246 P) (N (o374 P) L L) L)) (N (o147 P) (N (o214 P) (N (o342 P) L L) L) (N (o278 P) (N (o406 P) L L) L)))) (N (o55 P) (N (o72 P) (N (o104 P) (N (o171 P) (N (o302 P) L L) L) (N (o238 P) (N (o366 P) L L) L)) (N (o139 P) (N (o206 P) (N (o334 P) L L) L) (N (o270 P) (N (o398 P) L L) L))) (N (o88 P) (N (o123 P) (N (o190 P) (N (o318 P) L L) L) (N (o254 P) (N (o382 P) L L) L)) (N (o155 P) (N (o222 P) (N (o350 P) L L) L) (N (o286 P) L L))))) (N (o44 P) (N (o51 P) (N (o66 P) (N (o100 P) (N (o167 P) (N (o298 P) L L) L) (N (o234 P) (N (o362 P) L L) L)) (N (o135 P) (N (o202 P) (N (o330 P) L L) L) (N (o266 P) (N (o394 P) L L) L))) (N (o84 P) (N (o119 P) (N (o186 P) (N (o314 P) L L) L) (N (o250 P) (N (o378 P) L L) L)) (N (o151 P) (N (o218 P) (N (o346 P) L L) L) (N (o282 P) L L)))) (N (o59 P) (N (o76 P) (N (o108 P) (N (o175 P) (N (o306 P) L L) L) (N (o242 P) (N (o370 P) L L) L)) (N (o143 P) (N (o210 P) (N (o338 P) L L) L) (N (o274 P) (N (o402 P) L L) L))) (N (o92 P) (N (o127 P) (N (o194 P) (N (o322 P) L L) L) (N (o258 P) (N (o386 P) L L) L)) (N (o159 P) (N (o226 P) (N (o354 P) L L) L) (N (o290 P) L L)))))) (N (o6 P) (N (o42 P) (N (o50 P) (N (o64 P) (N (o98 P) (N (o165 P) (N (o296 P) L L) L) (N (o232 P) (N (o360 P) L L) L)) (N (o133 P) (N (o200 P) (N (o328 P) L L) L) (N (o264 P) (N (o392 P) L L) L))) (N (o82 P) (N (o114 P) (N (o184 P) (N (o312 P) L L) L) (N (o248 P) (N (o376 P) L L) L)) (N (o149 P) (N (o216 P) (N (o344 P) L L) L) (N (o280 P) (N (o408 P) L L) L)))) (N (o57 P) (N (o74 P) (N (o106 P) (N (o173 P) (N (o304 P) L L) L) (N (o240 P) (N (o368 P) L L) L)) (N (o141 P) (N (o208 P) (N (o336 P) L L) L) (N (o272 P) (N (o400 P) L L) L))) (N (o90 P) (N (o125 P) (N (o192 P) (N (o320 P) L L) L) (N (o256 P) (N (o384 P) L L) L)) (N (o157 P) (N (o224 P) (N (o352 P) L L) L) (N (o288 P) L L))))) (N (o46 P) (N (o53 P) (N (o70 P) (N (o102 P) (N (o169 P) (N (o300 P) L L) L) (N (o236 P) (N (o364 P) L L) L)) (N (o137 P) (N (o204 P) (N (o332 P) L L) L) (N (o268 P) (N (o396 P) L L) L))) (N (o86 P) (N (o121 P) (N (o188 P) (N (o316 P) L L) L) (N (o252 P) (N (o380 P) L L) L)) (N (o153 P) (N (o220 P) (N (o348 P) L L) L) (N (o284 P) L L)))) (N (o61 P) (N (o78 P) (N (o110 P) (N (o180 P) (N (o308 P) L L) L) (N (o244 P) (N (o372 P) L L) L)) (N (o145 P) (N (o212 P) (N (o340 P) L L) L) (N (o276 P) (N (o404 P) L L) L))) (N (o94 P) (N (o129 P) (N (o196 P) (N (o324 P) L L) L) (N (o260 P) (N (o388 P) L L) L)) (N (o161 P) (N (o228 P) (N (o356 P) L L) L) (N (o292 P) L L))))))))
noncomputable abbrev stT_g2 (w : World) (os : OsState) : SharedT := ⟨tree_g2 w.params, 372, life_g2, gens_g2, drawn_g2, toks_g2, os⟩
noncomputable abbrev st_g2 (w : World) (os : OsState) : Shared := SharedT.abs (stT_g2 w os)
noncomputable def o410 (P : Params) : Obj := ⟨(T "dict"), none, (dc [E P "__name__" 165 (S "os.path" 1194), E P "__doc__" 166 Z, E P "__package__" 167 Z, E P "__loader__" 168 (B "__main__.__loader__#opaque"), E P "__spec__" 169 Z, E P "__annotations__" 170 (R 6), E P "__builtins__" 171 (R 4), E P "__file__" 173 (S "/claim/cut.py" 172), E P "__cached__" 174 Z, E P "_sre" 275 (R 12), E P "deque" 317 (T "collections.deque"), E P "_wall" 330 (R 44), E P "_special_chars_map" 478 (R 46), E P "escape" 485 (R 56), E P "translate_pattern" 496 (R 63), E P "_twin_re_1" 536 (R 68), E P "_whence" 546 (R 75), E P "_index" 554 (R 82), E P "UnsupportedOperation" 576 (R 92), E P "IOBase" 608 (R 112), E P "BufferedIOBase" 626 (R 127), E P "TextIOBase" 644 (R 139), E P "BytesIO" 906 (R 369), E P "StringIO" 1193 (R 616)] 24), #[]⟩
noncomputable def o411 (P : Params) : Obj := ⟨Z, none, (fd [(I (3) 0), (I (0) 0), (R 43), (I (8) 0), (I (0) 0), (R 55), (I (15) 0), (I (0) 0), (R 62), (I (23) 0), (I (0) 0), (R 74), (I (28) 0), (I (0) 0), (R 81), (I (35) 0), (I (0) 0), (R 88), (I (37) 0), (I (0) 0), (R 101), (I (44) 0), (I (0) 0), (R 123), (I (46) 0), (I (0) 0), (R 135), (I (48) 0), (I (0) 0), (R 147), (I (218) 0), (I (0) 0), (R 377)]), #[]⟩
noncomputable def o412 (P : Params) : Obj := ⟨(T "type"), none, (.cls ⟨S0 "TextIOBase", [(R 112)], [(R 139), (R 112), (T "object")], 138, S0 "TextIOBase", true, [], [(R 616)], false, none, false⟩), #[(some (R 130)), none, (some (S "TextIOBase" 627)), (some (S "TextIOBase" 635)), (some Z), (some (.bool true))]⟩
noncomputable def o413 (P : Params) : Obj := ⟨(T "tuple"), none, (sq [(R 139)] 0), #[]⟩
noncomputable def o414 (P : Params) : Obj := ⟨(T "builtin_function_or_method"), none, (fd [(B "type.__prepare__"), (T "type")]), #[]⟩
noncomputable def o415 (P : Params) : Obj := ⟨(T "dict"), none, (dc [E P "__module__" 914 (S "_io" 919), E P "__qualname__" 916 (S "StringIO" 915), E P "__firstlineno__" 918 (I (218) 917), E P "__init__" 931 (R 386), E P "_StringIO__translated" 940 (R 393), E P "_StringIO__check" 947 (R 400), E P "_StringIO__check_dot" 954 (R 407), E P "_StringIO__line" 969 (R 414), E P "closed" 977 (R 422), E P "line_buffering" 985 (R 430), E P "newlines" 993 (R 438), E P "encoding" 1001 (R 446), E P "errors" 1009 (R 454), E P "close" 1016 (R 461), E P "__enter__" 1023 (R 468), E P "__exit__" 1031 (R 475), E P "readable" 1038 (R 482), E P "writable" 1045 (R 489), E P "seekable" 1052 (R 496), E P "isatty" 1059 (R 503), E P "flush" 1066 (R 510), E P "fileno" 1073 (R 517), E P "detach" 1080 (R 524), E P "getvalue" 1087 (R 531), E P "tell" 1094 (R 538), E P "seek" 1104 (R 546), E P "truncate" 1112 (R 554), E P "read" 1124 (R 562), E P "readline" 1134 (R 570), E P "readlines" 1144 (R 578), E P "__iter__" 1151 (R 585), E P "__next__" 1159 (R 592), E P "write" 1171 (R 599), E P "writelines" 1179 (R 606), E P "__repr__" 1186 (R 613), E P "__static_attributes__" 1190 (R 614)] 36), #[]⟩
noncomputable def o416 (P : Params) : Obj := ⟨(T "tuple"), none, (sq [] 0), #[]⟩
noncomputable def o417 (P : Params) : Obj := ⟨Z, none, (fd [(I (221) 0), (I (4) 0), (R 385), (I (234) 0), (I (4) 0), (R 392), (I (242) 0), (I (4) 0), (R 399), (I (246) 0), (I (4) 0), (R 406), (I (250) 0), (I (4) 0), (R 413), (I (283) 0), (I (4) 0), (R 420), (I (287) 0), (I (4) 0), (R 428), (I (291) 0), (I (4) 0), (R 436), (I (295) 0), (I (4) 0), (R 444), (I (299) 0), (I (4) 0), (R 452), (I (302) 0), (I (4) 0), (R 460), (I (305) 0), (I (4) 0), (R 467), (I (309) 0), (I (4) 0), (R 474), (I (312) 0), (I (4) 0), (R 481), (I (316) 0), (I (4) 0), (R 488), (I (320) 0), (I (4) 0), (R 495), (I (324) 0), (I (4) 0), (R 502), (I (328) 0), (I (4) 0), (R 509), (I (331) 0), (I (4) 0), (R 516), (I (334) 0), (I (4) 0), (R 523), (I (337) 0), (I (4) 0), (R 530), (I (340) 0), (I (4) 0), (R 537), (I (344) 0), (I (4) 0), (R 545), (I (361) 0), (I (4) 0), (R 553), (I (364) 0), (I (4) 0), (R 561), (I (378) 0), (I (4) 0), (R 569), (I (385) 0), (I (4) 0), (R 577), (I (388) 0), (I (4) 0), (R 584), (I (392) 0), (I (4) 0), (R 591), (I (399) 0), (I (4) 0), (R 598), (I (418) 0), (I (4) 0), (R 605), (I (421) 0), (I (4) 0), (R 612)]), #[]⟩
noncomputable def o418 (P : Params) : Obj := ⟨(T "code"), none, (fd [(S "StringIO" 909), (S "StringIO" 910), (S "/claim/cut.py" 911), (I (218) 0), (I (0) 0), (I (0) 0), (I (0) 0), (I (0) 0), (R 375), (.bool false), (I (318) 0), (R 376), Z, Z, Z, Z, (I (912) 0), (I (218) 0), (S "/claim/cut.py" 913)]), #[]⟩
noncomputable def o419 (P : Params) : Obj := ⟨(T "frame"), none, .plain, #[(some (R 377)), (some (R 3)), (some (R 374)), none, (some (S "io" 537)), none, (some (R 0))]⟩
noncomputable def o420 (P : Params) : Obj := ⟨(T "tuple"), none, (sq [(S "" 921), (S "\n" 922)] 0), #[]⟩
noncomputable def o421 (P : Params) : Obj := ⟨(T "tuple"), none, (sq [] 0), #[]⟩
noncomputable def o422 (P : Params) : Obj := ⟨Z, none, (fd []), #[]⟩
noncomputable def o423 (P : Params) : Obj := ⟨(T "tuple"), none, (sq [(S "self" 926), (S "initial_value" 927), (S "newline" 928)] 0), #[]⟩
noncomputable def o424 (P : Params) : Obj := ⟨(T "tuple"), none, (sq [] 0), #[]⟩
noncomputable def o425 (P : Params) : Obj := ⟨Z, none, (.func (fn (s2 17 1) "StringIO.__init__" 0 [] Z Z Z Z none Z Z 0)), #[]⟩
noncomputable def o426 (P : Params) : Obj := ⟨(T "code"), none, (fd [(S "__init__" 923), (S "StringIO.__init__" 924), (S "/claim/cut.py" 925), (I (221) 0), (I (3) 0), (I (0) 0), (I (0) 0), (I (3) 0), (R 380), (.bool true), (I (318) 0), (R 381), Z, (R 382), (R 383), (R 384), (I (929) 0), (I (221) 0), (S "/claim/cut.py" 930)]), #[]⟩
noncomputable def o427 (P : Params) : Obj := ⟨(T "function"), none, (.func (fn (s2 17 1) "StringIO.__init__" 3 [] (R 379) Z Z (S "io" 537) none (R 385) Z 0)), #[]⟩
noncomputable def o428 (P : Params) : Obj := ⟨(T "tuple"), none, (sq [] 0), #[]⟩
noncomputable def o429 (P : Params) : Obj := ⟨Z, none, (fd []), #[]⟩
noncomputable def o430 (P : Params) : Obj := ⟨(T "tuple"), none, (sq [(S "self" 935), (S "s" 936), (S "newline" 937)] 0), #[]⟩
noncomputable def o431 (P : Params) : Obj := ⟨(T "tuple"), none, (sq [] 0), #[]⟩
noncomputable def o432 (P : Params) : Obj := ⟨Z, none, (.func (fn (s2 17 2) "StringIO.__translated" 0 [] Z Z Z Z none Z Z 0)), #[]⟩
noncomputable def o433 (P : Params) : Obj := ⟨(T "code"), none, (fd [(S "__translated" 932), (S "StringIO.__translated" 933), (S "/claim/cut.py" 934), (I (234) 0), (I (2) 0), (I (0) 0), (I (0) 0), (I (3) 0), (R 387), (.bool true), (I (318) 0), (R 388), Z, (R 389), (R 390), (R 391), (I (938) 0), (I (234) 0), (S "/claim/cut.py" 939)]), #[]⟩
noncomputable def o434 (P : Params) : Obj := ⟨(T "function"), none, (.func (fn (s2 17 2) "StringIO.__translated" 3 [] Z Z Z (S "io" 537) none (R 392) Z 0)), #[]⟩
noncomputable def o435 (P : Params) : Obj := ⟨(T "tuple"), none, (sq [] 0), #[]⟩
noncomputable def o436 (P : Params) : Obj := ⟨Z, none, (fd []), #[]⟩
noncomputable def o437 (P : Params) : Obj := ⟨(T "tuple"), none, (sq [(S "self" 944)] 0), #[]⟩
noncomputable def o438 (P : Params) : Obj := ⟨(T "tuple"), none, (sq [] 0), #[]⟩
noncomputable def o439 (P : Params) : Obj := ⟨Z, none, (.func (fn (s2 17 3) "StringIO.__check" 0 [] Z Z Z Z none Z Z 0)), #[]⟩
noncomputable def o440 (P : Params) : Obj := ⟨(T "code"), none, (fd [(S "__check" 941), (S "StringIO.__check" 942), (S "/claim/cut.py" 943), (I (242) 0), (I (1) 0), (I (0) 0), (I (0) 0), (I (3) 0), (R 394), (.bool true), (I (318) 0), (R 395), Z, (R 396), (R 397), (R 398), (I (945) 0), (I (242) 0), (S "/claim/cut.py" 946)]), #[]⟩
noncomputable def o441 (P : Params) : Obj := ⟨(T "function"), none, (.func (fn (s2 17 3) "StringIO.__check" 3 [] Z Z Z (S "io" 537) none (R 399) Z 0)), #[]⟩
noncomputable def o442 (P : Params) : Obj := ⟨(T "tuple"), none, (sq [] 0), #[]⟩
noncomputable def o443 (P : Params) : Obj := ⟨Z, none, (fd []), #[]⟩
noncomputable def o444 (P : Params) : Obj := ⟨(T "tuple"), none, (sq [(S "self" 951)] 0), #[]⟩
noncomputable def o445 (P : Params) : Obj := ⟨(T "tuple"), none, (sq [] 0), #[]⟩
noncomputable def o446 (P : Params) : Obj := ⟨Z, none, (.func (fn (s2 17 4) "StringIO.__check_dot" 0 [] Z Z Z Z none Z Z 0)), #[]⟩
noncomputable def o447 (P : Params) : Obj := ⟨(T "code"), none, (fd [(S "__check_dot" 948), (S "StringIO.__check_dot" 949), (S "/claim/cut.py" 950), (I (246) 0), (I (1) 0), (I (0) 0), (I (0) 0), (I (3) 0), (R 401), (.bool true), (I (318) 0), (R 402), Z, (R 403), (R 404), (R 405), (I (952) 0), (I (246) 0), (S "/claim/cut.py" 953)]), #[]⟩
noncomputable def o448 (P : Params) : Obj := ⟨(T "function"), none, (.func (fn (s2 17 4) "StringIO.__check_dot" 3 [] Z Z Z (S "io" 537) none (R 406) Z 0)), #[]⟩
noncomputable def o449 (P : Params) : Obj := ⟨(T "tuple"), none, (sq [] 0), #[]⟩
noncomputable def o450 (P : Params) : Obj := ⟨Z, none, (fd []), #[]⟩
noncomputable def o451 (P : Params) : Obj := ⟨(T "tuple"), none, (sq [(S "self" 958), (S "limit" 959), (S "start" 960), (S "stop" 961), (S "cut" 962), (S "newline" 963), (S "i" 964), (S "j" 965), (S "end" 966)] 0), #[]⟩
noncomputable def o452 (P : Params) : Obj := ⟨(T "tuple"), none, (sq [] 0), #[]⟩
noncomputable def o453 (P : Params) : Obj := ⟨Z, none, (.func (fn (s2 17 5) "StringIO.__line" 0 [] Z Z Z Z none Z Z 0)), #[]⟩
noncomputable def o454 (P : Params) : Obj := ⟨(T "code"), none, (fd [(S "__line" 955), (S "StringIO.__line" 956), (S "/claim/cut.py" 957), (I (250) 0), (I (2) 0), (I (0) 0), (I (0) 0), (I (3) 0), (R 408), (.bool true), (I (318) 0), (R 409), Z, (R 410), (R 411), (R 412), (I (967) 0), (I (250) 0), (S "/claim/cut.py" 968)]), #[]⟩
noncomputable def o455 (P : Params) : Obj := ⟨(T "function"), none, (.func (fn (s2 17 5) "StringIO.__line" 3 [] Z Z Z (S "io" 537) none (R 413) Z 0)), #[]⟩
noncomputable def o456 (P : Params) : Obj := ⟨(T "tuple"), none, (sq [] 0), #[]⟩
noncomputable def o457 (P : Params) : Obj := ⟨Z, none, (fd []), #[]⟩
noncomputable def o458 (P : Params) : Obj := ⟨(T "tuple"), none, (sq [(S "self" 973)] 0), #[]⟩
noncomputable def o459 (P : Params) : Obj := ⟨(T "tuple"), none, (sq [] 0), #[]⟩
noncomputable def o460 (P : Params) : Obj := ⟨Z, none, (.func (fn (s2 17 6) "StringIO.closed" 0 [] Z Z Z Z none Z Z 0)), #[]⟩
noncomputable def o461 (P : Params) : Obj := ⟨(T "code"), none, (fd [(S "closed" 970), (S "StringIO.closed" 971), (S "/claim/cut.py" 972), (I (282) 0), (I (1) 0), (I (0) 0), (I (0) 0), (I (3) 0), (R 415), (.bool true), (I (318) 0), (R 416), Z, (R 417), (R 418), (R 419), (I (974) 0), (I (282) 0), (S "/claim/cut.py" 975)]), #[]⟩
noncomputable def o462 (P : Params) : Obj := ⟨(T "function"), none, (.func (fn (s2 17 6) "StringIO.closed" 3 [] Z Z Z (S "io" 537) none (R 420) Z 0)), #[]⟩
noncomputable def o463 (P : Params) : Obj := ⟨(T "property"), none, (fd [(R 421), Z, Z, Z, (S "closed" 977), (.bool false)]), #[]⟩
noncomputable def o464 (P : Params) : Obj := ⟨(T "tuple"), none, (sq [] 0), #[]⟩
noncomputable def o465 (P : Params) : Obj := ⟨Z, none, (fd []), #[]⟩
noncomputable def o466 (P : Params) : Obj := ⟨(T "tuple"), none, (sq [(S "self" 981)] 0), #[]⟩
noncomputable def o467 (P : Params) : Obj := ⟨(T "tuple"), none, (sq [] 0), #[]⟩
noncomputable def o468 (P : Params) : Obj := ⟨Z, none, (.func (fn (s2 17 7) "StringIO.line_buffering" 0 [] Z Z Z Z none Z Z 0)), #[]⟩
noncomputable def o469 (P : Params) : Obj := ⟨(T "code"), none, (fd [(S "line_buffering" 978), (S "StringIO.line_buffering" 979), (S "/claim/cut.py" 980), (I (286) 0), (I (1) 0), (I (0) 0), (I (0) 0), (I (3) 0), (R 423), (.bool true), (I (318) 0), (R 424), Z, (R 425), (R 426), (R 427), (I (982) 0), (I (286) 0), (S "/claim/cut.py" 983)]), #[]⟩
noncomputable def o470 (P : Params) : Obj := ⟨(T "function"), none, (.func (fn (s2 17 7) "StringIO.line_buffering" 3 [] Z Z Z (S "io" 537) none (R 428) Z 0)), #[]⟩
noncomputable def o471 (P : Params) : Obj := ⟨(T "property"), none, (fd [(R 429), Z, Z, Z, (S "line_buffering" 985), (.bool false)]), #[]⟩
noncomputable def o472 (P : Params) : Obj := ⟨(T "tuple"), none, (sq [] 0), #[]⟩
noncomputable def o473 (P : Params) : Obj := ⟨Z, none, (fd []), #[]⟩
noncomputable def o474 (P : Params) : Obj := ⟨(T "tuple"), none, (sq [(S "self" 989)] 0), #[]⟩
noncomputable def o475 (P : Params) : Obj := ⟨(T "tuple"), none, (sq [] 0), #[]⟩
noncomputable def o476 (P : Params) : Obj := ⟨Z, none, (.func (fn (s2 17 8) "StringIO.newlines" 0 [] Z Z Z Z none Z Z 0)), #[]⟩
noncomputable def o477 (P : Params) : Obj := ⟨(T "code"), none, (fd [(S "newlines" 986), (S "StringIO.newlines" 987), (S "/claim/cut.py" 988), (I (290) 0), (I (1) 0), (I (0) 0), (I (0) 0), (I (3) 0), (R 431), (.bool true), (I (318) 0), (R 432), Z, (R 433), (R 434), (R 435), (I (990) 0), (I (290) 0), (S "/claim/cut.py" 991)]), #[]⟩
noncomputable def o478 (P : Params) : Obj := ⟨(T "function"), none, (.func (fn (s2 17 8) "StringIO.newlines" 3 [] Z Z Z (S "io" 537) none (R 436) Z 0)), #[]⟩
noncomputable def o479 (P : Params) : Obj := ⟨(T "property"), none, (fd [(R 437), Z, Z, Z, (S "newlines" 993), (.bool false)]), #[]⟩
noncomputable def o480 (P : Params) : Obj := ⟨(T "tuple"), none, (sq [] 0), #[]⟩
noncomputable def o481 (P : Params) : Obj := ⟨Z, none, (fd []), #[]⟩
noncomputable def o482 (P : Params) : Obj := ⟨(T "tuple"), none, (sq [(S "self" 997)] 0), #[]⟩
noncomputable def o483 (P : Params) : Obj := ⟨(T "tuple"), none, (sq [] 0), #[]⟩
noncomputable def o484 (P : Params) : Obj := ⟨Z, none, (.func (fn (s2 17 9) "StringIO.encoding" 0 [] Z Z Z Z none Z Z 0)), #[]⟩
noncomputable def o485 (P : Params) : Obj := ⟨(T "code"), none, (fd [(S "encoding" 994), (S "StringIO.encoding" 995), (S "/claim/cut.py" 996), (I (294) 0), (I (1) 0), (I (0) 0), (I (0) 0), (I (3) 0), (R 439), (.bool true), (I (318) 0), (R 440), Z, (R 441), (R 442), (R 443), (I (998) 0), (I (294) 0), (S "/claim/cut.py" 999)]), #[]⟩
noncomputable def o486 (P : Params) : Obj := ⟨(T "function"), none, (.func (fn (s2 17 9) "StringIO.encoding" 3 [] Z Z Z (S "io" 537) none (R 444) Z 0)), #[]⟩
noncomputable def o487 (P : Params) : Obj := ⟨(T "property"), none, (fd [(R 445), Z, Z, Z, (S "encoding" 1001), (.bool false)]), #[]⟩
noncomputable def o488 (P : Params) : Obj := ⟨(T "tuple"), none, (sq [] 0), #[]⟩
noncomputable def o489 (P : Params) : Obj := ⟨Z, none, (fd []), #[]⟩
noncomputable def o490 (P : Params) : Obj := ⟨(T "tuple"), none, (sq [(S "self" 1005)] 0), #[]⟩
noncomputable def o491 (P : Params) : Obj := ⟨(T "tuple"), none, (sq [] 0), #[]⟩
noncomputable def o492 (P : Params) : Obj := ⟨Z, none, (.func (fn (s2 17 10) "StringIO.errors" 0 [] Z Z Z Z none Z Z 0)), #[]⟩
noncomputable def o493 (P : Params) : Obj := ⟨(T "code"), none, (fd [(S "errors" 1002), (S "StringIO.errors" 1003), (S "/claim/cut.py" 1004), (I (298) 0), (I (1) 0), (I (0) 0), (I (0) 0), (I (3) 0), (R 447), (.bool true), (I (318) 0), (R 448), Z, (R 449), (R 450), (R 451), (I (1006) 0), (I (298) 0), (S "/claim/cut.py" 1007)]), #[]⟩
noncomputable def o494 (P : Params) : Obj := ⟨(T "function"), none, (.func (fn (s2 17 10) "StringIO.errors" 3 [] Z Z Z (S "io" 537) none (R 452) Z 0)), #[]⟩
noncomputable def o495 (P : Params) : Obj := ⟨(T "property"), none, (fd [(R 453), Z, Z, Z, (S "errors" 1009), (.bool false)]), #[]⟩
noncomputable def o496 (P : Params) : Obj := ⟨(T "tuple"), none, (sq [] 0), #[]⟩
noncomputable def o497 (P : Params) : Obj := ⟨Z, none, (fd []), #[]⟩
noncomputable def o498 (P : Params) : Obj := ⟨(T "tuple"), none, (sq [(S "self" 1013)] 0), #[]⟩
noncomputable def o499 (P : Params) : Obj := ⟨(T "tuple"), none, (sq [] 0), #[]⟩
noncomputable def o500 (P : Params) : Obj := ⟨Z, none, (.func (fn (s2 17 11) "StringIO.close" 0 [] Z Z Z Z none Z Z 0)), #[]⟩
noncomputable def o501 (P : Params) : Obj := ⟨(T "code"), none, (fd [(S "close" 1010), (S "StringIO.close" 1011), (S "/claim/cut.py" 1012), (I (302) 0), (I (1) 0), (I (0) 0), (I (0) 0), (I (3) 0), (R 455), (.bool true), (I (318) 0), (R 456), Z, (R 457), (R 458), (R 459), (I (1014) 0), (I (302) 0), (S "/claim/cut.py" 1015)]), #[]⟩
noncomputable def o502 (P : Params) : Obj := ⟨(T "function"), none, (.func (fn (s2 17 11) "StringIO.close" 3 [] Z Z Z (S "io" 537) none (R 460) Z 0)), #[]⟩
noncomputable def o503 (P : Params) : Obj := ⟨(T "tuple"), none, (sq [] 0), #[]⟩
noncomputable def o504 (P : Params) : Obj := ⟨Z, none, (fd []), #[]⟩
noncomputable def o505 (P : Params) : Obj := ⟨(T "tuple"), none, (sq [(S "self" 1020)] 0), #[]⟩
noncomputable def o506 (P : Params) : Obj := ⟨(T "tuple"), none, (sq [] 0), #[]⟩
noncomputable def o507 (P : Params) : Obj := ⟨Z, none, (.func (fn (s2 17 12) "StringIO.__enter__" 0 [] Z Z Z Z none Z Z 0)), #[]⟩
noncomputable def o508 (P : Params) : Obj := ⟨(T "code"), none, (fd [(S "__enter__" 1017), (S "StringIO.__enter__" 1018), (S "/claim/cut.py" 1019), (I (305) 0), (I (1) 0), (I (0) 0), (I (0) 0), (I (3) 0), (R 462), (.bool true), (I (318) 0), (R 463), Z, (R 464), (R 465), (R 466), (I (1021) 0), (I (305) 0), (S "/claim/cut.py" 1022)]), #[]⟩
noncomputable def o509 (P : Params) : Obj := ⟨(T "function"), none, (.func (fn (s2 17 12) "StringIO.__enter__" 3 [] Z Z Z (S "io" 537) none (R 467) Z 0)), #[]⟩
noncomputable def o510 (P : Params) : Obj := ⟨(T "tuple"), none, (sq [] 0), #[]⟩
noncomputable def o511 (P : Params) : Obj := ⟨Z, none, (fd []), #[]⟩
noncomputable def o512 (P : Params) : Obj := ⟨(T "tuple"), none, (sq [(S "self" 1027), (S "args" 1028)] 0), #[]⟩
noncomputable def o513 (P : Params) : Obj := ⟨(T "tuple"), none, (sq [] 0), #[]⟩
noncomputable def o514 (P : Params) : Obj := ⟨Z, none, (.func (fn (s2 17 13) "StringIO.__exit__" 0 [] Z Z Z Z none Z Z 0)), #[]⟩
noncomputable def o515 (P : Params) : Obj := ⟨(T "code"), none, (fd [(S "__exit__" 1024), (S "StringIO.__exit__" 1025), (S "/claim/cut.py" 1026), (I (309) 0), (I (1) 0), (I (0) 0), (I (0) 0), (I (7) 0), (R 469), (.bool true), (I (318) 0), (R 470), Z, (R 471), (R 472), (R 473), (I (1029) 0), (I (309) 0), (S "/claim/cut.py" 1030)]), #[]⟩
noncomputable def o516 (P : Params) : Obj := ⟨(T "function"), none, (.func (fn (s2 17 13) "StringIO.__exit__" 3 [] Z Z Z (S "io" 537) none (R 474) Z 0)), #[]⟩
noncomputable def o517 (P : Params) : Obj := ⟨(T "tuple"), none, (sq [] 0), #[]⟩
noncomputable def o518 (P : Params) : Obj := ⟨Z, none, (fd []), #[]⟩
noncomputable def o519 (P : Params) : Obj := ⟨(T "tuple"), none, (sq [(S "self" 1035)] 0), #[]⟩
noncomputable def o520 (P : Params) : Obj := ⟨(T "tuple"), none, (sq [] 0), #[]⟩
noncomputable def o521 (P : Params) : Obj := ⟨Z, none, (.func (fn (s2 17 14) "StringIO.readable" 0 [] Z Z Z Z none Z Z 0)), #[]⟩
noncomputable def o522 (P : Params) : Obj := ⟨(T "code"), none, (fd [(S "readable" 1032), (S "StringIO.readable" 1033), (S "/claim/cut.py" 1034), (I (312) 0), (I (1) 0), (I (0) 0), (I (0) 0), (I (3) 0), (R 476), (.bool true), (I (318) 0), (R 477), Z, (R 478), (R 479), (R 480), (I (1036) 0), (I (312) 0), (S "/claim/cut.py" 1037)]), #[]⟩
noncomputable def o523 (P : Params) : Obj := ⟨(T "function"), none, (.func (fn (s2 17 14) "StringIO.readable" 3 [] Z Z Z (S "io" 537) none (R 481) Z 0)), #[]⟩
noncomputable def o524 (P : Params) : Obj := ⟨(T "tuple"), none, (sq [] 0), #[]⟩
noncomputable def o525 (P : Params) : Obj := ⟨Z, none, (fd []), #[]⟩
noncomputable def o526 (P : Params) : Obj := ⟨(T "tuple"), none, (sq [(S "self" 1042)] 0), #[]⟩
noncomputable def o527 (P : Params) : Obj := ⟨(T "tuple"), none, (sq [] 0), #[]⟩
noncomputable def o528 (P : Params) : Obj := ⟨Z, none, (.func (fn (s2 17 15) "StringIO.writable" 0 [] Z Z Z Z none Z Z 0)), #[]⟩
noncomputable def o529 (P : Params) : Obj := ⟨(T "code"), none, (fd [(S "writable" 1039), (S "StringIO.writable" 1040), (S "/claim/cut.py" 1041), (I (316) 0), (I (1) 0), (I (0) 0), (I (0) 0), (I (3) 0), (R 483), (.bool true), (I (318) 0), (R 484), Z, (R 485), (R 486), (R 487), (I (1043) 0), (I (316) 0), (S "/claim/cut.py" 1044)]), #[]⟩
noncomputable def o530 (P : Params) : Obj := ⟨(T "function"), none, (.func (fn (s2 17 15) "StringIO.writable" 3 [] Z Z Z (S "io" 537) none (R 488) Z 0)), #[]⟩
noncomputable def o531 (P : Params) : Obj := ⟨(T "tuple"), none, (sq [] 0), #[]⟩
noncomputable def o532 (P : Params) : Obj := ⟨Z, none, (fd []), #[]⟩
noncomputable def o533 (P : Params) : Obj := ⟨(T "tuple"), none, (sq [(S "self" 1049)] 0), #[]⟩
noncomputable def o534 (P : Params) : Obj := ⟨(T "tuple"), none, (sq [] 0), #[]⟩
noncomputable def o535 (P : Params) : Obj := ⟨Z, none, (.func (fn (s2 17 16) "StringIO.seekable" 0 [] Z Z Z Z none Z Z 0)), #[]⟩
noncomputable def o536 (P : Params) : Obj := ⟨(T "code"), none, (fd [(S "seekable" 1046), (S "StringIO.seekable" 1047), (S "/claim/cut.py" 1048), (I (320) 0), (I (1) 0), (I (0) 0), (I (0) 0), (I (3) 0), (R 490), (.bool true), (I (318) 0), (R 491), Z, (R 492), (R 493), (R 494), (I (1050) 0), (I (320) 0), (S "/claim/cut.py" 1051)]), #[]⟩
noncomputable def o537 (P : Params) : Obj := ⟨(T "function"), none, (.func (fn (s2 17 16) "StringIO.seekable" 3 [] Z Z Z (S "io" 537) none (R 495) Z 0)), #[]⟩
noncomputable def o538 (P : Params) : Obj := ⟨(T "tuple"), none, (sq [] 0), #[]⟩
noncomputable def o539 (P : Params) : Obj := ⟨Z, none, (fd []), #[]⟩
noncomputable def o540 (P : Params) : Obj := ⟨(T "tuple"), none, (sq [(S "self" 1056)] 0), #[]⟩
noncomputable def o541 (P : Params) : Obj := ⟨(T "tuple"), none, (sq [] 0), #[]⟩
noncomputable def o542 (P : Params) : Obj := ⟨Z, none, (.func (fn (s2 17 17) "StringIO.isatty" 0 [] Z Z Z Z none Z Z 0)), #[]⟩
noncomputable def o543 (P : Params) : Obj := ⟨(T "code"), none, (fd [(S "isatty" 1053), (S "StringIO.isatty" 1054), (S "/claim/cut.py" 1055), (I (324) 0), (I (1) 0), (I (0) 0), (I (0) 0), (I (3) 0), (R 497), (.bool true), (I (318) 0), (R 498), Z, (R 499), (R 500), (R 501), (I (1057) 0), (I (324) 0), (S "/claim/cut.py" 1058)]), #[]⟩
noncomputable def o544 (P : Params) : Obj := ⟨(T "function"), none, (.func (fn (s2 17 17) "StringIO.isatty" 3 [] Z Z Z (S "io" 537) none (R 502) Z 0)), #[]⟩
noncomputable def o545 (P : Params) : Obj := ⟨(T "tuple"), none, (sq [] 0), #[]⟩
noncomputable def o546 (P : Params) : Obj := ⟨Z, none, (fd []), #[]⟩
noncomputable def o547 (P : Params) : Obj := ⟨(T "tuple"), none, (sq [(S "self" 1063)] 0), #[]⟩
noncomputable def o548 (P : Params) : Obj := ⟨(T "tuple"), none, (sq [] 0), #[]⟩
noncomputable def o549 (P : Params) : Obj := ⟨Z, none, (.func (fn (s2 17 18) "StringIO.flush" 0 [] Z Z Z Z none Z Z 0)), #[]⟩
noncomputable def o550 (P : Params) : Obj := ⟨(T "code"), none, (fd [(S "flush" 1060), (S "StringIO.flush" 1061), (S "/claim/cut.py" 1062), (I (328) 0), (I (1) 0), (I (0) 0), (I (0) 0), (I (3) 0), (R 504), (.bool true), (I (318) 0), (R 505), Z, (R 506), (R 507), (R 508), (I (1064) 0), (I (328) 0), (S "/claim/cut.py" 1065)]), #[]⟩
noncomputable def o551 (P : Params) : Obj := ⟨(T "function"), none, (.func (fn (s2 17 18) "StringIO.flush" 3 [] Z Z Z (S "io" 537) none (R 509) Z 0)), #[]⟩
noncomputable def o552 (P : Params) : Obj := ⟨(T "tuple"), none, (sq [] 0), #[]⟩
noncomputable def o553 (P : Params) : Obj := ⟨Z, none, (fd []), #[]⟩
noncomputable def o554 (P : Params) : Obj := ⟨(T "tuple"), none, (sq [(S "self" 1070)] 0), #[]⟩
noncomputable def o555 (P : Params) : Obj := ⟨(T "tuple"), none, (sq [] 0), #[]⟩
noncomputable def o556 (P : Params) : Obj := ⟨Z, none, (.func (fn (s2 17 19) "StringIO.fileno" 0 [] Z Z Z Z none Z Z 0)), #[]⟩
noncomputable def o557 (P : Params) : Obj := ⟨(T "code"), none, (fd [(S "fileno" 1067), (S "StringIO.fileno" 1068), (S "/claim/cut.py" 1069), (I (331) 0), (I (1) 0), (I (0) 0), (I (0) 0), (I (3) 0), (R 511), (.bool true), (I (318) 0), (R 512), Z, (R 513), (R 514), (R 515), (I (1071) 0), (I (331) 0), (S "/claim/cut.py" 1072)]), #[]⟩
noncomputable def o558 (P : Params) : Obj := ⟨(T "function"), none, (.func (fn (s2 17 19) "StringIO.fileno" 3 [] Z Z Z (S "io" 537) none (R 516) Z 0)), #[]⟩
noncomputable def o559 (P : Params) : Obj := ⟨(T "tuple"), none, (sq [] 0), #[]⟩
noncomputable def o560 (P : Params) : Obj := ⟨Z, none, (fd []), #[]⟩
noncomputable def o561 (P : Params) : Obj := ⟨(T "tuple"), none, (sq [(S "self" 1077)] 0), #[]⟩
noncomputable def o562 (P : Params) : Obj := ⟨(T "tuple"), none, (sq [] 0), #[]⟩
noncomputable def o563 (P : Params) : Obj := ⟨Z, none, (.func (fn (s2 17 20) "StringIO.detach" 0 [] Z Z Z Z none Z Z 0)), #[]⟩
noncomputable def o564 (P : Params) : Obj := ⟨(T "code"), none, (fd [(S "detach" 1074), (S "StringIO.detach" 1075), (S "/claim/cut.py" 1076), (I (334) 0), (I (1) 0), (I (0) 0), (I (0) 0), (I (3) 0), (R 518), (.bool true), (I (318) 0), (R 519), Z, (R 520), (R 521), (R 522), (I (1078) 0), (I (334) 0), (S "/claim/cut.py" 1079)]), #[]⟩
noncomputable def o565 (P : Params) : Obj := ⟨(T "function"), none, (.func (fn (s2 17 20) "StringIO.detach" 3 [] Z Z Z (S "io" 537) none (R 523) Z 0)), #[]⟩
noncomputable def o566 (P : Params) : Obj := ⟨(T "tuple"), none, (sq [] 0), #[]⟩
noncomputable def o567 (P : Params) : Obj := ⟨Z, none, (fd []), #[]⟩
noncomputable def o568 (P : Params) : Obj := ⟨(T "tuple"), none, (sq [(S "self" 1084)] 0), #[]⟩
noncomputable def o569 (P : Params) : Obj := ⟨(T "tuple"), none, (sq [] 0), #[]⟩
noncomputable def o570 (P : Params) : Obj := ⟨Z, none, (.func (fn (s2 17 21) "StringIO.getvalue" 0 [] Z Z Z Z none Z Z 0)), #[]⟩
noncomputable def o571 (P : Params) : Obj := ⟨(T "code"), none, (fd [(S "getvalue" 1081), (S "StringIO.getvalue" 1082), (S "/claim/cut.py" 1083), (I (337) 0), (I (1) 0), (I (0) 0), (I (0) 0), (I (3) 0), (R 525), (.bool true), (I (318) 0), (R 526), Z, (R 527), (R 528), (R 529), (I (1085) 0), (I (337) 0), (S "/claim/cut.py" 1086)]), #[]⟩
noncomputable def o572 (P : Params) : Obj := ⟨(T "function"), none, (.func (fn (s2 17 21) "StringIO.getvalue" 3 [] Z Z Z (S "io" 537) none (R 530) Z 0)), #[]⟩
noncomputable def o573 (P : Params) : Obj := ⟨(T "tuple"), none, (sq [] 0), #[]⟩
noncomputable def o574 (P : Params) : Obj := ⟨Z, none, (fd []), #[]⟩
noncomputable def o575 (P : Params) : Obj := ⟨(T "tuple"), none, (sq [(S "self" 1091)] 0), #[]⟩
noncomputable def o576 (P : Params) : Obj := ⟨(T "tuple"), none, (sq [] 0), #[]⟩
noncomputable def o577 (P : Params) : Obj := ⟨Z, none, (.func (fn (s2 17 22) "StringIO.tell" 0 [] Z Z Z Z none Z Z 0)), #[]⟩
noncomputable def o578 (P : Params) : Obj := ⟨(T "code"), none, (fd [(S "tell" 1088), (S "StringIO.tell" 1089), (S "/claim/cut.py" 1090), (I (340) 0), (I (1) 0), (I (0) 0), (I (0) 0), (I (3) 0), (R 532), (.bool true), (I (318) 0), (R 533), Z, (R 534), (R 535), (R 536), (I (1092) 0), (I (340) 0), (S "/claim/cut.py" 1093)]), #[]⟩
noncomputable def o579 (P : Params) : Obj := ⟨(T "function"), none, (.func (fn (s2 17 22) "StringIO.tell" 3 [] Z Z Z (S "io" 537) none (R 537) Z 0)), #[]⟩
noncomputable def o580 (P : Params) : Obj := ⟨(T "tuple"), none, (sq [(I (0) 1095)] 0), #[]⟩
noncomputable def o581 (P : Params) : Obj := ⟨(T "tuple"), none, (sq [] 0), #[]⟩
noncomputable def o582 (P : Params) : Obj := ⟨Z, none, (fd []), #[]⟩
noncomputable def o583 (P : Params) : Obj := ⟨(T "tuple"), none, (sq [(S "self" 1099), (S "pos" 1100), (S "whence" 1101)] 0), #[]⟩
noncomputable def o584 (P : Params) : Obj := ⟨(T "tuple"), none, (sq [] 0), #[]⟩
noncomputable def o585 (P : Params) : Obj := ⟨Z, none, (.func (fn (s2 17 23) "StringIO.seek" 0 [] Z Z Z Z none Z Z 0)), #[]⟩
noncomputable def o586 (P : Params) : Obj := ⟨(T "code"), none, (fd [(S "seek" 1096), (S "StringIO.seek" 1097), (S "/claim/cut.py" 1098), (I (344) 0), (I (3) 0), (I (3) 0), (I (0) 0), (I (3) 0), (R 540), (.bool true), (I (318) 0), (R 541), Z, (R 542), (R 543), (R 544), (I (1102) 0), (I (344) 0), (S "/claim/cut.py" 1103)]), #[]⟩
noncomputable def o587 (P : Params) : Obj := ⟨(T "function"), none, (.func (fn (s2 17 23) "StringIO.seek" 3 [] (R 539) Z Z (S "io" 537) none (R 545) Z 0)), #[]⟩
noncomputable def o588 (P : Params) : Obj := ⟨(T "tuple"), none, (sq [Z] 0), #[]⟩
noncomputable def o589 (P : Params) : Obj := ⟨(T "tuple"), none, (sq [] 0), #[]⟩
noncomputable def o590 (P : Params) : Obj := ⟨Z, none, (fd []), #[]⟩
noncomputable def o591 (P : Params) : Obj := ⟨(T "tuple"), none, (sq [(S "self" 1108), (S "pos" 1109)] 0), #[]⟩
noncomputable def o592 (P : Params) : Obj := ⟨(T "tuple"), none, (sq [] 0), #[]⟩
noncomputable def o593 (P : Params) : Obj := ⟨Z, none, (.func (fn (s2 17 24) "StringIO.truncate" 0 [] Z Z Z Z none Z Z 0)), #[]⟩
noncomputable def o594 (P : Params) : Obj := ⟨(T "code"), none, (fd [(S "truncate" 1105), (S "StringIO.truncate" 1106), (S "/claim/cut.py" 1107), (I (361) 0), (I (2) 0), (I (2) 0), (I (0) 0), (I (3) 0), (R 548), (.bool true), (I (318) 0), (R 549), Z, (R 550), (R 551), (R 552), (I (1110) 0), (I (361) 0), (S "/claim/cut.py" 1111)]), #[]⟩
noncomputable def o595 (P : Params) : Obj := ⟨(T "function"), none, (.func (fn (s2 17 24) "StringIO.truncate" 3 [] (R 547) Z Z (S "io" 537) none (R 553) Z 0)), #[]⟩
noncomputable def o596 (P : Params) : Obj := ⟨(T "tuple"), none, (sq [(I (-1) 1114)] 0), #[]⟩
noncomputable def o597 (P : Params) : Obj := ⟨(T "tuple"), none, (sq [] 0), #[]⟩
noncomputable def o598 (P : Params) : Obj := ⟨Z, none, (fd []), #[]⟩
noncomputable def o599 (P : Params) : Obj := ⟨(T "tuple"), none, (sq [(S "self" 1118), (S "size" 1119), (S "start" 1120), (S "stop" 1121)] 0), #[]⟩
noncomputable def o600 (P : Params) : Obj := ⟨(T "tuple"), none, (sq [] 0), #[]⟩
noncomputable def o601 (P : Params) : Obj := ⟨Z, none, (.func (fn (s2 17 25) "StringIO.read" 0 [] Z Z Z Z none Z Z 0)), #[]⟩
noncomputable def o602 (P : Params) : Obj := ⟨(T "code"), none, (fd [(S "read" 1115), (S "StringIO.read" 1116), (S "/claim/cut.py" 1117), (I (364) 0), (I (2) 0), (I (2) 0), (I (0) 0), (I (3) 0), (R 556), (.bool true), (I (318) 0), (R 557), Z, (R 558), (R 559), (R 560), (I (1122) 0), (I (364) 0), (S "/claim/cut.py" 1123)]), #[]⟩
noncomputable def o603 (P : Params) : Obj := ⟨(T "function"), none, (.func (fn (s2 17 25) "StringIO.read" 3 [] (R 555) Z Z (S "io" 537) none (R 561) Z 0)), #[]⟩
noncomputable def o604 (P : Params) : Obj := ⟨(T "tuple"), none, (sq [(I (-1) 1126)] 0), #[]⟩
noncomputable def o605 (P : Params) : Obj := ⟨(T "tuple"), none, (sq [] 0), #[]⟩
noncomputable def o606 (P : Params) : Obj := ⟨Z, none, (fd []), #[]⟩
noncomputable def o607 (P : Params) : Obj := ⟨(T "tuple"), none, (sq [(S "self" 1130), (S "size" 1131)] 0), #[]⟩
noncomputable def o608 (P : Params) : Obj := ⟨(T "tuple"), none, (sq [] 0), #[]⟩
noncomputable def o609 (P : Params) : Obj := ⟨Z, none, (.func (fn (s2 17 26) "StringIO.readline" 0 [] Z Z Z Z none Z Z 0)), #[]⟩
noncomputable def o610 (P : Params) : Obj := ⟨(T "code"), none, (fd [(S "readline" 1127), (S "StringIO.readline" 1128), (S "/claim/cut.py" 1129), (I (378) 0), (I (2) 0), (I (2) 0), (I (0) 0), (I (3) 0), (R 564), (.bool true), (I (318) 0), (R 565), Z, (R 566), (R 567), (R 568), (I (1132) 0), (I (378) 0), (S "/claim/cut.py" 1133)]), #[]⟩
noncomputable def o611 (P : Params) : Obj := ⟨(T "function"), none, (.func (fn (s2 17 26) "StringIO.readline" 3 [] (R 563) Z Z (S "io" 537) none (R 569) Z 0)), #[]⟩
noncomputable def o612 (P : Params) : Obj := ⟨(T "tuple"), none, (sq [(I (-1) 1136)] 0), #[]⟩
noncomputable def o613 (P : Params) : Obj := ⟨(T "tuple"), none, (sq [] 0), #[]⟩
noncomputable def o614 (P : Params) : Obj := ⟨Z, none, (fd []), #[]⟩
noncomputable def o615 (P : Params) : Obj := ⟨(T "tuple"), none, (sq [(S "self" 1140), (S "hint" 1141)] 0), #[]⟩
noncomputable def o616 (P : Params) : Obj := ⟨(T "tuple"), none, (sq [] 0), #[]⟩
noncomputable def o617 (P : Params) : Obj := ⟨Z, none, (.func (fn (s2 17 27) "StringIO.readlines" 0 [] Z Z Z Z none Z Z 0)), #[]⟩
noncomputable def o618 (P : Params) : Obj := ⟨(T "code"), none, (fd [(S "readlines" 1137), (S "StringIO.readlines" 1138), (S "/claim/cut.py" 1139), (I (385) 0), (I (2) 0), (I (2) 0), (I (0) 0), (I (3) 0), (R 572), (.bool true), (I (318) 0), (R 573), Z, (R 574), (R 575), (R 576), (I (1142) 0), (I (385) 0), (S "/claim/cut.py" 1143)]), #[]⟩
noncomputable def o619 (P : Params) : Obj := ⟨(T "function"), none, (.func (fn (s2 17 27) "StringIO.readlines" 3 [] (R 571) Z Z (S "io" 537) none (R 577) Z 0)), #[]⟩
noncomputable def o620 (P : Params) : Obj := ⟨(T "tuple"), none, (sq [] 0), #[]⟩
noncomputable def o621 (P : Params) : Obj := ⟨Z, none, (fd []), #[]⟩
noncomputable def o622 (P : Params) : Obj := ⟨(T "tuple"), none, (sq [(S "self" 1148)] 0), #[]⟩
noncomputable def o623 (P : Params) : Obj := ⟨(T "tuple"), none, (sq [] 0), #[]⟩
noncomputable def o624 (P : Params) : Obj := ⟨Z, none, (.func (fn (s2 17 28) "StringIO.__iter__" 0 [] Z Z Z Z none Z Z 0)), #[]⟩
noncomputable def o625 (P : Params) : Obj := ⟨(T "code"), none, (fd [(S "__iter__" 1145), (S "StringIO.__iter__" 1146), (S "/claim/cut.py" 1147), (I (388) 0), (I (1) 0), (I (0) 0), (I (0) 0), (I (3) 0), (R 579), (.bool true), (I (318) 0), (R 580), Z, (R 581), (R 582), (R 583), (I (1149) 0), (I (388) 0), (S "/claim/cut.py" 1150)]), #[]⟩
noncomputable def o626 (P : Params) : Obj := ⟨(T "function"), none, (.func (fn (s2 17 28) "StringIO.__iter__" 3 [] Z Z Z (S "io" 537) none (R 584) Z 0)), #[]⟩
noncomputable def o627 (P : Params) : Obj := ⟨(T "tuple"), none, (sq [] 0), #[]⟩
noncomputable def o628 (P : Params) : Obj := ⟨Z, none, (fd []), #[]⟩
noncomputable def o629 (P : Params) : Obj := ⟨(T "tuple"), none, (sq [(S "self" 1155), (S "line" 1156)] 0), #[]⟩
noncomputable def o630 (P : Params) : Obj := ⟨(T "tuple"), none, (sq [] 0), #[]⟩
noncomputable def o631 (P : Params) : Obj := ⟨Z, none, (.func (fn (s2 17 29) "StringIO.__next__" 0 [] Z Z Z Z none Z Z 0)), #[]⟩
noncomputable def o632 (P : Params) : Obj := ⟨(T "code"), none, (fd [(S "__next__" 1152), (S "StringIO.__next__" 1153), (S "/claim/cut.py" 1154), (I (392) 0), (I (1) 0), (I (0) 0), (I (0) 0), (I (3) 0), (R 586), (.bool true), (I (318) 0), (R 587), Z, (R 588), (R 589), (R 590), (I (1157) 0), (I (392) 0), (S "/claim/cut.py" 1158)]), #[]⟩
noncomputable def o633 (P : Params) : Obj := ⟨(T "function"), none, (.func (fn (s2 17 29) "StringIO.__next__" 3 [] Z Z Z (S "io" 537) none (R 591) Z 0)), #[]⟩
noncomputable def o634 (P : Params) : Obj := ⟨(T "tuple"), none, (sq [] 0), #[]⟩
noncomputable def o635 (P : Params) : Obj := ⟨Z, none, (fd []), #[]⟩
noncomputable def o636 (P : Params) : Obj := ⟨(T "tuple"), none, (sq [(S "self" 1163), (S "s" 1164), (S "n" 1165), (S "m" 1166), (S "start" 1167), (S "buf" 1168)] 0), #[]⟩
noncomputable def o637 (P : Params) : Obj := ⟨(T "tuple"), none, (sq [] 0), #[]⟩
noncomputable def o638 (P : Params) : Obj := ⟨Z, none, (.func (fn (s2 17 30) "StringIO.write" 0 [] Z Z Z Z none Z Z 0)), #[]⟩
noncomputable def o639 (P : Params) : Obj := ⟨(T "code"), none, (fd [(S "write" 1160), (S "StringIO.write" 1161), (S "/claim/cut.py" 1162), (I (399) 0), (I (2) 0), (I (2) 0), (I (0) 0), (I (3) 0), (R 593), (.bool true), (I (318) 0), (R 594), Z, (R 595), (R 596), (R 597), (I (1169) 0), (I (399) 0), (S "/claim/cut.py" 1170)]), #[]⟩
noncomputable def o640 (P : Params) : Obj := ⟨(T "function"), none, (.func (fn (s2 17 30) "StringIO.write" 3 [] Z Z Z (S "io" 537) none (R 598) Z 0)), #[]⟩
noncomputable def o641 (P : Params) : Obj := ⟨(T "tuple"), none, (sq [] 0), #[]⟩
noncomputable def o642 (P : Params) : Obj := ⟨Z, none, (fd []), #[]⟩
noncomputable def o643 (P : Params) : Obj := ⟨(T "tuple"), none, (sq [(S "self" 1175), (S "lines" 1176)] 0), #[]⟩
noncomputable def o644 (P : Params) : Obj := ⟨(T "tuple"), none, (sq [] 0), #[]⟩
noncomputable def o645 (P : Params) : Obj := ⟨Z, none, (.func (fn (s2 17 31) "StringIO.writelines" 0 [] Z Z Z Z none Z Z 0)), #[]⟩
noncomputable def o646 (P : Params) : Obj := ⟨(T "code"), none, (fd [(S "writelines" 1172), (S "StringIO.writelines" 1173), (S "/claim/cut.py" 1174), (I (418) 0), (I (2) 0), (I (2) 0), (I (0) 0), (I (3) 0), (R 600), (.bool true), (I (318) 0), (R 601), Z, (R 602), (R 603), (R 604), (I (1177) 0), (I (418) 0), (S "/claim/cut.py" 1178)]), #[]⟩
noncomputable def o647 (P : Params) : Obj := ⟨(T "function"), none, (.func (fn (s2 17 31) "StringIO.writelines" 3 [] Z Z Z (S "io" 537) none (R 605) Z 0)), #[]⟩
noncomputable def o648 (P : Params) : Obj := ⟨(T "tuple"), none, (sq [] 0), #[]⟩
noncomputable def o649 (P : Params) : Obj := ⟨Z, none, (fd []), #[]⟩
noncomputable def o650 (P : Params) : Obj := ⟨(T "tuple"), none, (sq [(S "self" 1183)] 0), #[]⟩
noncomputable def o651 (P : Params) : Obj := ⟨(T "tuple"), none, (sq [] 0), #[]⟩
noncomputable def o652 (P : Params) : Obj := ⟨Z, none, (.func (fn (s2 17 32) "StringIO.__repr__" 0 [] Z Z Z Z none Z Z 0)), #[]⟩
noncomputable def o653 (P : Params) : Obj := ⟨(T "code"), none, (fd [(S "__repr__" 1180), (S "StringIO.__repr__" 1181), (S "/claim/cut.py" 1182), (I (421) 0), (I (1) 0), (I (0) 0), (I (0) 0), (I (3) 0), (R 607), (.bool true), (I (318) 0), (R 608), Z, (R 609), (R 610), (R 611), (I (1184) 0), (I (421) 0), (S "/claim/cut.py" 1185)]), #[]⟩
noncomputable def o654 (P : Params) : Obj := ⟨(T "function"), none, (.func (fn (s2 17 32) "StringIO.__repr__" 3 [] Z Z Z (S "io" 537) none (R 612) Z 0)), #[]⟩
noncomputable def o655 (P : Params) : Obj := ⟨(T "tuple"), none, (sq [(S "__buf" 1187), (S "__newline" 1188), (S "__pos" 1189)] 0), #[]⟩
noncomputable def o656 (P : Params) : Obj := ⟨(T "dict"), none, (dc [E P "__module__" 914 (S "_io" 919), E P "__firstlineno__" 918 (I (218) 917), E P "__init__" 931 (R 386), E P "_StringIO__translated" 940 (R 393), E P "_StringIO__check" 947 (R 400), E P "_StringIO__check_dot" 954 (R 407), E P "_StringIO__line" 969 (R 414), E P "closed" 977 (R 422), E P "line_buffering" 985 (R 430), E P "newlines" 993 (R 438), E P "encoding" 1001 (R 446), E P "errors" 1009 (R 454), E P "close" 1016 (R 461), E P "__enter__" 1023 (R 468), E P "__exit__" 1031 (R 475), E P "readable" 1038 (R 482), E P "writable" 1045 (R 489), E P "seekable" 1052 (R 496), E P "isatty" 1059 (R 503), E P "flush" 1066 (R 510), E P "fileno" 1073 (R 517), E P "detach" 1080 (R 524), E P "getvalue" 1087 (R 531), E P "tell" 1094 (R 538), E P "seek" 1104 (R 546), E P "truncate" 1112 (R 554), E P "read" 1124 (R 562), E P "readline" 1134 (R 570), E P "readlines" 1144 (R 578), E P "__iter__" 1151 (R 585), E P "__next__" 1159 (R 592), E P "write" 1171 (R 599), E P "writelines" 1179 (R 606), E P "__repr__" 1186 (R 613), E P "__static_attributes__" 1190 (R 614), E P "__doc__" 1191 Z] 2), #[]⟩
noncomputable def o657 (P : Params) : Obj := ⟨(T "type"), none, (.cls ⟨S0 "StringIO", [(R 139)], [(R 616), (R 139), (R 112), (T "object")], 615, S0 "StringIO", true, [], [], false, none, false⟩), #[(some (R 372)), none, (some (S "StringIO" 907)), (some (S "StringIO" 915)), (some Z), (some (.bool true))]⟩
noncomputable def o658 (P : Params) : Obj := ⟨(T "super"), none, (fd [(R 616), (R 616), (R 616)]), #[]⟩
noncomputable def o659 (P : Params) : Obj := ⟨(T "builtin_function_or_method"), none, (fd [(B "object.__init_subclass__"), (R 616)]), #[]⟩
noncomputable abbrev life_g3 : Life := { }
noncomputable abbrev drawn_g3 : Drawn := { }
noncomputable abbrev gens_g3 : Array GenState := #[]
noncomputable abbrev toks_g3 : Nat := 1196
noncomputable def tree_g3 (P : Params) : BT := (N (o34 P) (N (o35 P) (N (o410 P) (N (o40 P) (N (o47 P) (N (o31 P) (N (o95 P) (N (o179 P) (N (o293 P) (N (o552 P) L L) L) (N (o424 P) L L)) (N (o229 P) (N (o357 P) (N (o616 P) L L) L) (N (o488 P) L L))) (N (o130 P) (N (o197 P) (N (o325 P) (N (o584 P) L L) L) (N (o456 P) L L)) (N (o261 P) (N (o389 P) (N (o648 P) L L) L) (N (o520 P) L L)))) (N (o79 P) (N (o111 P) (N (o181 P) (N (o309 P) (N (o568 P) L L) L) (N (o440 P) L L)) (N (o245 P) (N (o373 P) (N (o632 P) L L) L) (N (o504 P) L L))) (N (o146 P) (N (o213 P) (N (o341 P) (N (o600 P) L L) L) (N (o472 P) L L)) (N (o277 P) (N (o405 P) L L) (N (o536 P) L L))))) (N (o54 P) (N (o71 P) (N (o103 P) (N (o170 P) (N (o301 P) (N (o560 P) L L) L) (N (o432 P) L L)) (N (o237 P) (N (o365 P) (N (o624 P) L L) L) (N (o496 P) L L))) (N (o138 P) (N (o205 P) (N (o333 P) (N (o592 P) L L) L) (N (o464 P) L L)) (N (o269 P) (N (o397 P) (N (o656 P) L L) L) (N (o528 P) L L)))) (N (o87 P) (N (o122 P) (N (o189 P) (N (o317 P) (N (o576 P) L L) L) (N (o448 P) L L)) (N (o253 P) (N (o381 P) (N (o640 P) L L) L) (N (o512 P) L L))) (N (o154 P) (N (o221 P) (N (o349 P) (N (o608 P) L L) L) (N (o480 P) L L)) (N (o285 P) (N (o416 P) L L) (N (o544 P) L L)))))) (N (o43 P) (N (o19 P) (N (o411 P) (N (o99 P) (N (o166 P) (N (o297 P) (N (o556 P) L L) L) (N (o428 P) L L)) (N (o233 P) (N (o361 P) (N (o620 P) L L) L) (N (o492 P) L L))) (N (o134 P) (N (o201 P) (N (o329 P) (N (o588 P) L L) L) (N (o460 P) L L)) (N (o265 P) (N (o393 P) (N (o652 P) L L) L) (N (o524 P) L L)))) (N (o83 P) (N (o118 P) (N (o185 P) (N (o313 P) (N (o572 P) L L) L) (N (o444 P) L L)) (N (o249 P) (N (o377 P) (N (o636 P) L L) L) (N (o508 P) L L))) (N (o150 P) (N (o217 P) (N (o345 P) (N (o604 P) L L) L) (N (o476 P) L L)) (N (o281 P) (N (o409 P) L L) (N (o540 P) L L))))) (N (o58 P) (N (o75 P) (N (o107 P) (N (o412 P) (N (o305 P) (N (o564 P) L L) L) (N (o436 P) L L)) (N (o241 P) (N (o369 P) (N (o628 P) L L) L) (N (o500 P) L L))) (N (o142 P) (N (o209 P) (N (o337 P) (N (o596 P) L L) L) (N (o468 P) L L)) (N (o273 P) (N (o401 P) L L) (N (o532 P) L L)))) (N (o91 P) (N (o126 P) (N (o193 P) (N (o321 P) (N (o580 P) L L) L) (N (o452 P) L L)) (N (o257 P) (N (o385 P) (N (o644 P) L L) L) (N (o516 P) L L))) (N (o158 P) (N (o225 P) (N (o353 P) (N (o612 P) L L) L) (N (o484 P) L L)) (N (o289 P) (N (o420 P) L L) (N (o548 P) L L))))))) (N (o39 P) (N (o41 P) (N (o49 P) (N (o63 P) (N (o97 P) (N (o164 P) (N (o295 P) (N (o554 P) L L) L) (N (o426 P) L L)) (N (o231 P) (N (o359 P) (N (o618 P) L L) L) (N (o490 P) L L))) (N (o132 P) (N (o199 P) (N (o327 P) (N (o586 P) L L) L) (N (o458 P) L L)) (N (o263 P) (N (o391 P) (N (o650 P) L L) L) (N (o522 P) L L)))) (N (o81 P) (N (o113 P) (N (o183 P) (N (o311 P) (N (o570 P) L L) L) (N (o442 P) L L)) (N (o247 P) (N (o375 P) (N (o634 P) L L) L) (N (o506 P) L L))) (N (o148 P) (N (o215 P) (N (o343 P) (N (o602 P) L L) L) (N (o474 P) L L)) (N (o279 P) (N (o407 P) L L) (N (o538 P) L L))))) (N (o56 P) (N (o73 P) (N (o105 P) (N (o172 P) (N (o303 P) (N (o562 P) L L) L) (N (o434 P) L L)) (N (o239 P) (N (o367 P) (N (o626 P) L L) L) (N (o498 P) L L))) (N (o140 P) (N (o207 P) (N (o335 P) (N (o594 P) L L) L) (N (o466 P) L L)) (N (o271 P) (N (o399 P) (N (o658 P) L L) L) (N (o530 P) L L)))) (N (o89 P) (N (o124 P) (N (o191 P) (N (o319 P) (N (o578 P) L L) L) (N (o450 P) L L)) (N (o255 P) (N (o383 P) (N (o642 P) L L) L) (N (o514 P) L L))) (N (o156 P) (N (o223 P) (N (o351 P) (N (o610 P) L L) L) (N (o482 P) L L)) (N (o287 P) (N (o418 P) L L) (N (o546 P) L L)))))) (N (o45 P) (N (o52 P) (N (o67 P) (N (o101 P) (N (o168 P) (N (o299 P) (N (o558 P) L L) L) (N (o430 P) L L)) (N (o235 P) (N (o363 P) (N (o622 P) L L) L) (N (o494 P) L L))) (N (o136 P) (N (o203 P) (N (o331 P) (N (o590 P) L L) L) (N (o462 P) L L)) (N (o267 P) (N (o395 P) (N (o654 P) L L) L) (N (o526 P) L L)))) (N (o85 P) (N (o120 P) (N (o187 P) (N (o315 P) (N (o574 P) L L) L) (N (o446 P) L L)) (N (o251 P) (N (o379 P) (N (o638 P) L L) L) (N (o510 P) L L))) (N (o152 P) (N (o219 P) (N (o347 P) (N (o606 P) L L) L) (N (o478 P) L L)) (N (o283 P) (N (o414 P) L L) (N (o542 P) L L))))) (N (o60 P) (N (o77 P) (N (o109 P) (N (o176 P) (N (o307 P) (N (o566 P) L L) L) (N (o438 P) L L)) (N (o243 P) (N (o371 P) (N (o630 P) L L) L) (N (o502 P) L L))) (N (o144 P) (N (o211 P) (N (o339 P) (N (o598 P) L L) L) (N (o470 P) L L)) (N (o275 P) (N (o403 P) L L) (N (o534 P) L L)))) (N (o93 P) (N (o128 P) (N (o195 P) (N (o323 P) (N (o582 P) L L) L) (N (o454 P) L L)) (N (o259 P) (N (o387 P) (N (o646 P) L L) L) (N (o518 P) L L))) (N (o160 P) (N (o227 P) (N (o355 P) (N (o614 P) L L) L) (N (o486 P) L L)) (N (o291 P) (N (o422 P) L L) (N (o550 P) L L)))))))) (N (o115 P) (N (o38 P) (N (o8 P) (N (o48 P) (N (o62 P) (N (o96 P) (N (o163 P) (N (o294 P) (N (o553 P) L L) L) (N (o425 P) L L)) (N (o230 P) (N (o358 P) (N (o617 P) L L) L) (N (o489 P) L L))) (N (o131 P) (N (o198 P) (N (o326 P) (N (o585 P) L L) L) (N (o457 P) L L)) (N (o262 P) (N (o390 P) (N (o649 P) L L) L) (N (o521 P) L L)))) (N (o80 P) (N (o112 P) (N (o182 P) (N (o310 P) (N (o569 P) L L) L) (N (o441 P) L L)) (N (o246 P) (N (o374 P) (N (o633 P) L L) L) (N (o505 P) L L))) (N (o147 P) (N (o214 P) (N (o342 P) (N (o601 P) L L) L) (N (o473 P) L L)) (N (o278 P) (N (o406 P) L L) (N (o537 P) L L))))) (N (o55 P) (N (o72 P) (N (o104 P) (N (o171 P) (N (o302 P) (N (o561 P) L L) L) (N (o433 P) L L)) (N (o238 P) (N (o366 P) (N (o625 P) L L) L) (N (o497 P) L L))) (N (o139 P) (N (o206 P) (N (o334 P) (N (o593 P) L L) L) (N (o465 P) L L)) (N (o270 P) (N (o398 P) (N (o657 P) L L) L) (N (o529 P) L L)))) (N (o88 P) (N (o123 P) (N (o190 P) (N (o318 P) (N (o577 P) L L) L) (N (o449 P) L L)) (N (o254 P) (N (o382 P) (N (o641 P) L L) L) (N (o513 P) L L))) (N (o155 P) (N (o222 P) (N (o350 P) (N (o609 P) L L) L) (N (o481 P) L L)) (N (o286 P) (N (o417 P) L L) (N (o545 P) L L)))))) (N (o44 P) (N (o51 P) (N (o66 P) (N (o100 P) (N (o167 P) (N (o298 P) (N (o557 P) L L) L) (N (o429 P) L L)) (N (o234 P) (N (o362 P) (N (o621 P) L L) L) (N (o493 P) L L))) (N (o135 P) (N (o202 P) (N (o330 P) (N (o589 P) L L) L) (N (o461 P) L L)) (N (o266 P) (N (o394 P) (N (o653 P) L L) L) (N (o525 P) L L)))) (N (o84 P) (N (o119 P) (N (o186 P) (N (o314 P) (N (o573 P) L L) L) (N (o445 P) L L)) (N (o250 P) (N (o378 P) (N (o637 P) L L) L) (N (o509 P) L L))) (N (o151 P) (N (o218 P) (N (o346 P) (N (o605 P) L L) L) (N (o477 P) L L)) (N (o282 P) (N (o413 P) L L) (N (o541 P) L L))))) (N (o59 P) (N (o76 P) (N (o108 P) (N (o175 P) (N (o306 P) (N (o565 P) L L) L) (N (o437 P) L L)) (N (o242 P) (N (o370 P) (N (o629 P) L L) L) (N (o501 P) L L))) (N (o143 P) (N (o210 P) (N (o338 P) (N (o597 P) L L) L) (N (o469 P) L L)) (N (o274 P) (N (o402 P) L L) (N (o533 P) L L)))) (N (o92 P) (N (o127 P) (N (o194 P) (N (o322 P) (N (o581 P) L L) L) (N (o453 P) L L)) (N (o258 P) (N (o386 P) (N (o645 P) L L) L) (N (o517 P) L L))) (N (o159 P) (N (o226 P) (N (o354 P) (N (o613 P) L L) L) (N (o485 P) L L)) (N (o290 P) (N (o421 P) L L) (N (o549 P) L L))))))) (N (o6 P) (N (o42 P) (N (o50 P) (N (o64 P) (N (o98 P) (N (o165 P) (N (o296 P) (N (o555 P) L L) L) (N (o427 P) L L)) (N (o232 P) (N (o360 P) (N (o619 P) L L) L) (N (o491 P) L L))) (N (o133 P) (N (o200 P) (N (o328 P) (N (o587 P) L L) L) (N (o459 P) L L)) (N (o264 P) (N (o392 P) (N (o651 P) L L) L) (N (o523 P) L L)))) (N (o82 P) (N (o114 P) (N (o184 P) (N (o312 P) (N (o571 P) L L) L) (N (o443 P) L L)) (N (o248 P) (N (o376 P) (N (o635 P) L L) L) (N (o507 P) L L))) (N (o149 P) (N (o216 P) (N (o344 P) (N (o603 P) L L) L) (N (o475 P) L L)) (N (o280 P) (N (o408 P) L L) (N (o539 P) L L))))) (N (o57 P) (N (o74 P) (N (o106 P) (N (o173 P) (N (o304 P) (N (o563 P) L L) L) (N (o435 P) L L)) (N (o240 P) (N (o368 P) (N (o627 P) L L) L) (N (o499 P) L L))) (N (o141 P) (N (o208 P) (N (o336 P) (N (o595 P) L L) L) (N (o467 P) L L)) (N (o272 P) (N (o400 P) (N (o659 P) L L) L) (N (o531 P) L L)))) (N (o90 P) (N (o125 P) (N (o192 P) (N (o320 P) (N (o579 P) L L) L) (N (o451 P) L L)) (N (o256 P) (N (o384 P) (N (o643 P) L L) L) (N (o515 P) L L))) (N (o157 P) (N (o224 P) (N (o352 P) (N (o611 P) L L) L) (N (o483 P) L L)) (N (o288 P) (N (o419 P) L L) (N (o547 P) L L)))))) (N (o46 P) (N (o53 P) (N (o70 P) (N (o102 P) (N (o169 P) (N (o300 P) (N (o559 P) L L) L) (N (o431 P) L L)) (N (o236 P) (N (o364 P) (N (o623 P) L L) L) (N (o495 P) L L))) (N (o137 P) (N (o204 P) (N (o332 P) (N (o591 P) L L) L) (N (o463 P) L L)) (N (o268 P) (N (o396 P) (N (o655 P) L L) L) (N (o527 P) L L)))) (N (o86 P) (N (o121 P) (N (o188 P) (N (o316 P) (N (o575 P) L L) L) (N (o447 P) L L)) (N (o252 P) (N (o380 P) (N (o639 P) L L) L) (N (o511 P) L L))) (N (o153 P) (N (o220 P) (N (o348 P) (N (o607 P) L L) L) (N (o479 P) L L)) (N (o284 P) (N (o415 P) L L) (N (o543 P) L L))))) (N (o61 P) (N (o78 P) (N (o110 P) (N (o180 P) (N (o308 P) (N (o567 P) L L) L) (N (o439 P) L L)) (N (o244 P) (N (o372 P) (N (o631 P) L L) L) (N (o503 P) L L))) (N (o145 P) (N (o212 P) (N (o340 P) (N (o599 P) L L) L) (N (o471 P) L L)) (N (o276 P) (N (o404 P) L L) (N (o535 P) L L)))) (N (o94 P) (N (o129 P) (N (o196 P) (N (o324 P) (N (o583 P) L L) L) (N (o455 P) L L)) (N (o260 P) (N (o388 P) (N (o647 P) L L) L) (N (o519 P) L L))) (N (o161 P) (N (o228 P) (N (o356 P) (N (o615 P) L L) L) (N (o487 P) L L)) (N (o292 P) (N (o423 P) L L) (N (o551 P) L L)))))))))
noncomputable abbrev stT_g3 (w : World) (os : OsState) : SharedT := ⟨tree_g3 w.params, 619, life_g3, gens_g3, drawn_g3, toks_g3, os⟩
noncomputable abbrev st_g3 (w : World) (os : OsState) : Shared := SharedT.abs (stT_g3 w os)
noncomputable def o660 (P : Params) : Obj := ⟨(T "dict"), none, (dc [E P "__name__" 165 (S "law_ny0303_01" 1421), E P "__doc__" 166 Z, E P "__package__" 167 Z, E P "__loader__" 168 (B "__main__.__loader__#opaque"), E P "__spec__" 169 Z, E P "__annotations__" 170 (R 6), E P "__builtins__" 171 (R 4), E P "__file__" 173 (S "/claim/cut.py" 172), E P "__cached__" 174 Z, E P "_sre" 275 (R 12), E P "deque" 317 (T "collections.deque"), E P "_wall" 330 (R 44), E P "_special_chars_map" 478 (R 46), E P "escape" 485 (R 56), E P "translate_pattern" 496 (R 63), E P "_twin_re_1" 536 (R 68), E P "_whence" 546 (R 75), E P "_index" 554 (R 82), E P "UnsupportedOperation" 576 (R 92), E P "IOBase" 608 (R 112), E P "BufferedIOBase" 626 (R 127), E P "TextIOBase" 644 (R 139), E P "BytesIO" 906 (R 369), E P "StringIO" 1193 (R 616), E P "_kind" 1204 (R 625), E P "_fspath" 1213 (R 632), E P "_check_arg_types" 1223 (R 639), E P "isabs" 1230 (R 646), E P "join" 1241 (R 770), E P "join_path" 1242 (R 653), E P "dirname" 1252 (R 660), E P "shlex" 1393 (R 751), E P "split" 1403 (R 763), E P "join_shlex" 1411 (R 770), E P "_find_unsafe" 1413 (R 771), E P "quote" 1420 (R 778), E P "_law_words" 1433 (R 785), E P "_law_told" 1439 (R 790), E P "law" 1447 (R 797)] 39), #[]⟩
noncomputable def o661 (P : Params) : Obj := ⟨Z, none, (fd [(I (3) 0), (I (0) 0), (R 43), (I (8) 0), (I (0) 0), (R 55), (I (15) 0), (I (0) 0), (R 62), (I (23) 0), (I (0) 0), (R 74), (I (28) 0), (I (0) 0), (R 81), (I (35) 0), (I (0) 0), (R 88), (I (37) 0), (I (0) 0), (R 101), (I (44) 0), (I (0) 0), (R 123), (I (46) 0), (I (0) 0), (R 135), (I (48) 0), (I (0) 0), (R 147), (I (218) 0), (I (0) 0), (R 377), (I (424) 0), (I (0) 0), (R 624), (I (445) 0), (I (0) 0), (R 631), (I (450) 0), (I (0) 0), (R 638), (I (455) 0), (I (0) 0), (R 645), (I (458) 0), (I (0) 0), (R 652), (I (479) 0), (I (0) 0), (R 659), (I (488) 0), (I (0) 0), (R 666), (I (740) 0), (I (0) 0), (R 762), (I (748) 0), (I (0) 0), (R 769), (I (752) 0), (I (0) 0), (R 777), (I (759) 0), (I (0) 0), (R 784), (I (775) 0), (I (0) 0), (R 789), (I (793) 0), (I (0) 0), (R 796)]), #[]⟩
noncomputable def o662 (P : Params) : Obj := ⟨(T "tuple"), none, (sq [] 0), #[]⟩
noncomputable def o663 (P : Params) : Obj := ⟨Z, none, (fd []), #[]⟩
noncomputable def o664 (P : Params) : Obj := ⟨(T "tuple"), none, (sq [(S "name" 1199), (S "x" 1200), (S "t" 1201)] 0), #[]⟩
noncomputable def o665 (P : Params) : Obj := ⟨(T "tuple"), none, (sq [] 0), #[]⟩
noncomputable def o666 (P : Params) : Obj := ⟨Z, none, (.func (fn (s1 19) "_kind" 0 [] Z Z Z Z none Z Z 0)), #[]⟩
noncomputable def o667 (P : Params) : Obj := ⟨(T "code"), none, (fd [(S "_kind" 1196), (S "_kind" 1197), (S "/claim/cut.py" 1198), (I (424) 0), (I (2) 0), (I (0) 0), (I (0) 0), (I (3) 0), (R 619), (.bool true), (I (318) 0), (R 620), Z, (R 621), (R 622), (R 623), (I (1202) 0), (I (424) 0), (S "/claim/cut.py" 1203)]), #[]⟩
noncomputable def o668 (P : Params) : Obj := ⟨(T "function"), none, (.func (fn (s1 19) "_kind" 3 [] Z Z Z (S "os.path" 1194) none (R 624) Z 0)), #[]⟩
noncomputable def o669 (P : Params) : Obj := ⟨(T "tuple"), none, (sq [] 0), #[]⟩
noncomputable def o670 (P : Params) : Obj := ⟨Z, none, (fd []), #[]⟩
noncomputable def o671 (P : Params) : Obj := ⟨(T "tuple"), none, (sq [(S "name" 1208), (S "x" 1209), (S "k" 1210)] 0), #[]⟩
noncomputable def o672 (P : Params) : Obj := ⟨(T "tuple"), none, (sq [] 0), #[]⟩
noncomputable def o673 (P : Params) : Obj := ⟨Z, none, (.func (fn (s1 20) "_fspath" 0 [] Z Z Z Z none Z Z 0)), #[]⟩
noncomputable def o674 (P : Params) : Obj := ⟨(T "code"), none, (fd [(S "_fspath" 1205), (S "_fspath" 1206), (S "/claim/cut.py" 1207), (I (445) 0), (I (2) 0), (I (0) 0), (I (0) 0), (I (3) 0), (R 626), (.bool true), (I (318) 0), (R 627), Z, (R 628), (R 629), (R 630), (I (1211) 0), (I (445) 0), (S "/claim/cut.py" 1212)]), #[]⟩
noncomputable def o675 (P : Params) : Obj := ⟨(T "function"), none, (.func (fn (s1 20) "_fspath" 3 [] Z Z Z (S "os.path" 1194) none (R 631) Z 0)), #[]⟩
noncomputable def o676 (P : Params) : Obj := ⟨(T "tuple"), none, (sq [] 0), #[]⟩
noncomputable def o677 (P : Params) : Obj := ⟨Z, none, (fd []), #[]⟩
noncomputable def o678 (P : Params) : Obj := ⟨(T "tuple"), none, (sq [(S "funcname" 1217), (S "args" 1218), (S "s" 1219), (S "k" 1220)] 0), #[]⟩
noncomputable def o679 (P : Params) : Obj := ⟨(T "tuple"), none, (sq [] 0), #[]⟩
noncomputable def o680 (P : Params) : Obj := ⟨Z, none, (.func (fn (s1 21) "_check_arg_types" 0 [] Z Z Z Z none Z Z 0)), #[]⟩
noncomputable def o681 (P : Params) : Obj := ⟨(T "code"), none, (fd [(S "_check_arg_types" 1214), (S "_check_arg_types" 1215), (S "/claim/cut.py" 1216), (I (450) 0), (I (1) 0), (I (0) 0), (I (0) 0), (I (7) 0), (R 633), (.bool true), (I (318) 0), (R 634), Z, (R 635), (R 636), (R 637), (I (1221) 0), (I (450) 0), (S "/claim/cut.py" 1222)]), #[]⟩
noncomputable def o682 (P : Params) : Obj := ⟨(T "function"), none, (.func (fn (s1 21) "_check_arg_types" 3 [] Z Z Z (S "os.path" 1194) none (R 638) Z 0)), #[]⟩
noncomputable def o683 (P : Params) : Obj := ⟨(T "tuple"), none, (sq [] 0), #[]⟩
noncomputable def o684 (P : Params) : Obj := ⟨Z, none, (fd []), #[]⟩
noncomputable def o685 (P : Params) : Obj := ⟨(T "tuple"), none, (sq [(S "s" 1227)] 0), #[]⟩
noncomputable def o686 (P : Params) : Obj := ⟨(T "tuple"), none, (sq [] 0), #[]⟩
noncomputable def o687 (P : Params) : Obj := ⟨Z, none, (.func (fn (s1 22) "isabs" 0 [] Z Z Z Z none Z Z 0)), #[]⟩
noncomputable def o688 (P : Params) : Obj := ⟨(T "code"), none, (fd [(S "isabs" 1224), (S "isabs" 1225), (S "/claim/cut.py" 1226), (I (455) 0), (I (1) 0), (I (0) 0), (I (0) 0), (I (3) 0), (R 640), (.bool true), (I (318) 0), (R 641), Z, (R 642), (R 643), (R 644), (I (1228) 0), (I (455) 0), (S "/claim/cut.py" 1229)]), #[]⟩
noncomputable def o689 (P : Params) : Obj := ⟨(T "function"), none, (.func (fn (s1 22) "isabs" 3 [] Z Z Z (S "os.path" 1194) none (R 645) Z 0)), #[]⟩
noncomputable def o690 (P : Params) : Obj := ⟨(T "tuple"), none, (sq [] 0), #[]⟩
noncomputable def o691 (P : Params) : Obj := ⟨Z, none, (fd []), #[]⟩
noncomputable def o692 (P : Params) : Obj := ⟨(T "tuple"), none, (sq [(S "a" 1234), (S "p" 1235), (S "b" 1236), (S "sep" 1237), (S "path" 1238)] 0), #[]⟩
noncomputable def o693 (P : Params) : Obj := ⟨(T "tuple"), none, (sq [] 0), #[]⟩
noncomputable def o694 (P : Params) : Obj := ⟨Z, none, (.func (fn (s1 23) "join" 0 [] Z Z Z Z none Z Z 0)), #[]⟩
noncomputable def o695 (P : Params) : Obj := ⟨(T "code"), none, (fd [(S "join" 1231), (S "join" 1232), (S "/claim/cut.py" 1233), (I (458) 0), (I (1) 0), (I (0) 0), (I (0) 0), (I (7) 0), (R 647), (.bool true), (I (318) 0), (R 648), Z, (R 649), (R 650), (R 651), (I (1239) 0), (I (458) 0), (S "/claim/cut.py" 1240)]), #[]⟩
noncomputable def o696 (P : Params) : Obj := ⟨(T "function"), none, (.func (fn (s1 23) "join" 3 [] Z Z Z (S "os.path" 1194) none (R 652) Z 0)), #[]⟩
noncomputable def o697 (P : Params) : Obj := ⟨(T "tuple"), none, (sq [] 0), #[]⟩
noncomputable def o698 (P : Params) : Obj := ⟨Z, none, (fd []), #[]⟩
noncomputable def o699 (P : Params) : Obj := ⟨(T "tuple"), none, (sq [(S "p" 1246), (S "sep" 1247), (S "i" 1248), (S "head" 1249)] 0), #[]⟩
noncomputable def o700 (P : Params) : Obj := ⟨(T "tuple"), none, (sq [] 0), #[]⟩
noncomputable def o701 (P : Params) : Obj := ⟨Z, none, (.func (fn (s1 25) "dirname" 0 [] Z Z Z Z none Z Z 0)), #[]⟩
noncomputable def o702 (P : Params) : Obj := ⟨(T "code"), none, (fd [(S "dirname" 1243), (S "dirname" 1244), (S "/claim/cut.py" 1245), (I (479) 0), (I (1) 0), (I (0) 0), (I (0) 0), (I (3) 0), (R 654), (.bool true), (I (318) 0), (R 655), Z, (R 656), (R 657), (R 658), (I (1250) 0), (I (479) 0), (S "/claim/cut.py" 1251)]), #[]⟩
noncomputable def o703 (P : Params) : Obj := ⟨(T "function"), none, (.func (fn (s1 25) "dirname" 3 [] Z Z Z (S "os.path" 1194) none (R 659) Z 0)), #[]⟩
noncomputable def o704 (P : Params) : Obj := ⟨(T "tuple"), none, (sq [] 0), #[]⟩
noncomputable def o705 (P : Params) : Obj := ⟨(T "builtin_function_or_method"), none, (fd [(B "type.__prepare__"), (T "type")]), #[]⟩
noncomputable def o706 (P : Params) : Obj := ⟨(T "dict"), none, (dc [E P "__module__" 1262 (S "cpy313.shlex" 1253), E P "__qualname__" 1264 (S "shlex" 1263), E P "__firstlineno__" 1266 (I (488) 1265), E P "__init__" 1278 (R 675), E P "punctuation_chars" 1286 (R 683), E P "push_token" 1294 (R 690), E P "push_source" 1303 (R 698), E P "pop_source" 1310 (R 705), E P "get_token" 1322 (R 712), E P "read_token" 1333 (R 719), E P "sourcehook" 1341 (R 726), E P "error_leader" 1350 (R 734), E P "__iter__" 1357 (R 741), E P "__next__" 1365 (R 748), E P "__static_attributes__" 1386 (R 749)] 15), #[]⟩
noncomputable def o707 (P : Params) : Obj := ⟨(T "tuple"), none, (sq [] 0), #[]⟩
noncomputable def o708 (P : Params) : Obj := ⟨Z, none, (fd [(I (490) 0), (I (4) 0), (R 674), (I (532) 0), (I (4) 0), (R 681), (I (535) 0), (I (4) 0), (R 689), (I (538) 0), (I (4) 0), (R 697), (I (551) 0), (I (4) 0), (R 704), (I (558) 0), (I (4) 0), (R 711), (I (585) 0), (I (4) 0), (R 718), (I (722) 0), (I (4) 0), (R 725), (I (729) 0), (I (4) 0), (R 733), (I (732) 0), (I (4) 0), (R 740), (I (735) 0), (I (4) 0), (R 747)]), #[]⟩
noncomputable def o709 (P : Params) : Obj := ⟨(T "code"), none, (fd [(S "shlex" 1257), (S "shlex" 1258), (S "/claim/cut.py" 1259), (I (488) 0), (I (0) 0), (I (0) 0), (I (0) 0), (I (0) 0), (R 664), (.bool false), (I (318) 0), (R 665), Z, Z, Z, Z, (I (1260) 0), (I (488) 0), (S "/claim/cut.py" 1261)]), #[]⟩
noncomputable def o710 (P : Params) : Obj := ⟨(T "frame"), none, .plain, #[(some (R 666)), (some (R 3)), (some (R 663)), none, (some (S "cpy313.shlex" 1253)), none, (some (R 0))]⟩
noncomputable def o711 (P : Params) : Obj := ⟨(T "tuple"), none, (sq [Z, Z, (.bool false), (.bool false)] 0), #[]⟩
noncomputable def o712 (P : Params) : Obj := ⟨(T "tuple"), none, (sq [] 0), #[]⟩
noncomputable def o713 (P : Params) : Obj := ⟨Z, none, (fd []), #[]⟩
noncomputable def o714 (P : Params) : Obj := ⟨(T "tuple"), none, (sq [(S "self" 1270), (S "instream" 1271), (S "infile" 1272), (S "posix" 1273), (S "punctuation_chars" 1274), (S "t" 1275)] 0), #[]⟩
noncomputable def o715 (P : Params) : Obj := ⟨(T "tuple"), none, (sq [] 0), #[]⟩
noncomputable def o716 (P : Params) : Obj := ⟨Z, none, (.func (fn (s2 27 0) "shlex.__init__" 0 [] Z Z Z Z none Z Z 0)), #[]⟩
noncomputable def o717 (P : Params) : Obj := ⟨(T "code"), none, (fd [(S "__init__" 1267), (S "shlex.__init__" 1268), (S "/claim/cut.py" 1269), (I (490) 0), (I (5) 0), (I (0) 0), (I (0) 0), (I (3) 0), (R 669), (.bool true), (I (318) 0), (R 670), Z, (R 671), (R 672), (R 673), (I (1276) 0), (I (490) 0), (S "/claim/cut.py" 1277)]), #[]⟩
noncomputable def o718 (P : Params) : Obj := ⟨(T "function"), none, (.func (fn (s2 27 0) "shlex.__init__" 3 [] (R 668) Z Z (S "cpy313.shlex" 1253) none (R 674) Z 0)), #[]⟩
noncomputable def o719 (P : Params) : Obj := ⟨(T "tuple"), none, (sq [] 0), #[]⟩
noncomputable def o720 (P : Params) : Obj := ⟨Z, none, (fd []), #[]⟩
noncomputable def o721 (P : Params) : Obj := ⟨(T "tuple"), none, (sq [(S "self" 1282)] 0), #[]⟩
noncomputable def o722 (P : Params) : Obj := ⟨(T "tuple"), none, (sq [] 0), #[]⟩
noncomputable def o723 (P : Params) : Obj := ⟨Z, none, (.func (fn (s2 27 1) "shlex.punctuation_chars" 0 [] Z Z Z Z none Z Z 0)), #[]⟩
noncomputable def o724 (P : Params) : Obj := ⟨(T "code"), none, (fd [(S "punctuation_chars" 1279), (S "shlex.punctuation_chars" 1280), (S "/claim/cut.py" 1281), (I (531) 0), (I (1) 0), (I (0) 0), (I (0) 0), (I (3) 0), (R 676), (.bool true), (I (318) 0), (R 677), Z, (R 678), (R 679), (R 680), (I (1283) 0), (I (531) 0), (S "/claim/cut.py" 1284)]), #[]⟩
noncomputable def o725 (P : Params) : Obj := ⟨(T "function"), none, (.func (fn (s2 27 1) "shlex.punctuation_chars" 3 [] Z Z Z (S "cpy313.shlex" 1253) none (R 681) Z 0)), #[]⟩
noncomputable def o726 (P : Params) : Obj := ⟨(T "property"), none, (fd [(R 682), Z, Z, Z, (S "punctuation_chars" 1286), (.bool false)]), #[]⟩
noncomputable def o727 (P : Params) : Obj := ⟨(T "tuple"), none, (sq [] 0), #[]⟩
noncomputable def o728 (P : Params) : Obj := ⟨Z, none, (fd []), #[]⟩
noncomputable def o729 (P : Params) : Obj := ⟨(T "tuple"), none, (sq [(S "self" 1290), (S "tok" 1291)] 0), #[]⟩
noncomputable def o730 (P : Params) : Obj := ⟨(T "tuple"), none, (sq [] 0), #[]⟩
noncomputable def o731 (P : Params) : Obj := ⟨Z, none, (.func (fn (s2 27 2) "shlex.push_token" 0 [] Z Z Z Z none Z Z 0)), #[]⟩
noncomputable def o732 (P : Params) : Obj := ⟨(T "code"), none, (fd [(S "push_token" 1287), (S "shlex.push_token" 1288), (S "/claim/cut.py" 1289), (I (535) 0), (I (2) 0), (I (0) 0), (I (0) 0), (I (3) 0), (R 684), (.bool true), (I (318) 0), (R 685), Z, (R 686), (R 687), (R 688), (I (1292) 0), (I (535) 0), (S "/claim/cut.py" 1293)]), #[]⟩
noncomputable def o733 (P : Params) : Obj := ⟨(T "function"), none, (.func (fn (s2 27 2) "shlex.push_token" 3 [] Z Z Z (S "cpy313.shlex" 1253) none (R 689) Z 0)), #[]⟩
noncomputable def o734 (P : Params) : Obj := ⟨(T "tuple"), none, (sq [Z] 0), #[]⟩
noncomputable def o735 (P : Params) : Obj := ⟨(T "tuple"), none, (sq [] 0), #[]⟩
noncomputable def o736 (P : Params) : Obj := ⟨Z, none, (fd []), #[]⟩
noncomputable def o737 (P : Params) : Obj := ⟨(T "tuple"), none, (sq [(S "self" 1298), (S "newstream" 1299), (S "newfile" 1300)] 0), #[]⟩
noncomputable def o738 (P : Params) : Obj := ⟨(T "tuple"), none, (sq [] 0), #[]⟩
noncomputable def o739 (P : Params) : Obj := ⟨Z, none, (.func (fn (s2 27 3) "shlex.push_source" 0 [] Z Z Z Z none Z Z 0)), #[]⟩
noncomputable def o740 (P : Params) : Obj := ⟨(T "code"), none, (fd [(S "push_source" 1295), (S "shlex.push_source" 1296), (S "/claim/cut.py" 1297), (I (538) 0), (I (3) 0), (I (0) 0), (I (0) 0), (I (3) 0), (R 692), (.bool true), (I (318) 0), (R 693), Z, (R 694), (R 695), (R 696), (I (1301) 0), (I (538) 0), (S "/claim/cut.py" 1302)]), #[]⟩
noncomputable def o741 (P : Params) : Obj := ⟨(T "function"), none, (.func (fn (s2 27 3) "shlex.push_source" 3 [] (R 691) Z Z (S "cpy313.shlex" 1253) none (R 697) Z 0)), #[]⟩
noncomputable def o742 (P : Params) : Obj := ⟨(T "tuple"), none, (sq [] 0), #[]⟩
noncomputable def o743 (P : Params) : Obj := ⟨Z, none, (fd []), #[]⟩
noncomputable def o744 (P : Params) : Obj := ⟨(T "tuple"), none, (sq [(S "self" 1307)] 0), #[]⟩
noncomputable def o745 (P : Params) : Obj := ⟨(T "tuple"), none, (sq [] 0), #[]⟩
noncomputable def o746 (P : Params) : Obj := ⟨Z, none, (.func (fn (s2 27 4) "shlex.pop_source" 0 [] Z Z Z Z none Z Z 0)), #[]⟩
noncomputable def o747 (P : Params) : Obj := ⟨(T "code"), none, (fd [(S "pop_source" 1304), (S "shlex.pop_source" 1305), (S "/claim/cut.py" 1306), (I (551) 0), (I (1) 0), (I (0) 0), (I (0) 0), (I (3) 0), (R 699), (.bool true), (I (318) 0), (R 700), Z, (R 701), (R 702), (R 703), (I (1308) 0), (I (551) 0), (S "/claim/cut.py" 1309)]), #[]⟩
noncomputable def o748 (P : Params) : Obj := ⟨(T "function"), none, (.func (fn (s2 27 4) "shlex.pop_source" 3 [] Z Z Z (S "cpy313.shlex" 1253) none (R 704) Z 0)), #[]⟩
noncomputable def o749 (P : Params) : Obj := ⟨(T "tuple"), none, (sq [] 0), #[]⟩
noncomputable def o750 (P : Params) : Obj := ⟨Z, none, (fd []), #[]⟩
noncomputable def o751 (P : Params) : Obj := ⟨(T "tuple"), none, (sq [(S "self" 1314), (S "tok" 1315), (S "raw" 1316), (S "spec" 1317), (S "newfile" 1318), (S "newstream" 1319)] 0), #[]⟩
noncomputable def o752 (P : Params) : Obj := ⟨(T "tuple"), none, (sq [] 0), #[]⟩
noncomputable def o753 (P : Params) : Obj := ⟨Z, none, (.func (fn (s2 27 5) "shlex.get_token" 0 [] Z Z Z Z none Z Z 0)), #[]⟩
noncomputable def o754 (P : Params) : Obj := ⟨(T "code"), none, (fd [(S "get_token" 1311), (S "shlex.get_token" 1312), (S "/claim/cut.py" 1313), (I (558) 0), (I (1) 0), (I (0) 0), (I (0) 0), (I (3) 0), (R 706), (.bool true), (I (318) 0), (R 707), Z, (R 708), (R 709), (R 710), (I (1320) 0), (I (558) 0), (S "/claim/cut.py" 1321)]), #[]⟩
noncomputable def o755 (P : Params) : Obj := ⟨(T "function"), none, (.func (fn (s2 27 5) "shlex.get_token" 3 [] Z Z Z (S "cpy313.shlex" 1253) none (R 711) Z 0)), #[]⟩
noncomputable def o756 (P : Params) : Obj := ⟨(T "tuple"), none, (sq [] 0), #[]⟩
noncomputable def o757 (P : Params) : Obj := ⟨Z, none, (fd []), #[]⟩
noncomputable def o758 (P : Params) : Obj := ⟨(T "tuple"), none, (sq [(S "self" 1326), (S "quoted" 1327), (S "escapedstate" 1328), (S "nextchar" 1329), (S "result" 1330)] 0), #[]⟩
noncomputable def o759 (P : Params) : Obj := ⟨(T "tuple"), none, (sq [] 0), #[]⟩
noncomputable def o760 (P : Params) : Obj := ⟨Z, none, (.func (fn (s2 27 6) "shlex.read_token" 0 [] Z Z Z Z none Z Z 0)), #[]⟩
noncomputable def o761 (P : Params) : Obj := ⟨(T "code"), none, (fd [(S "read_token" 1323), (S "shlex.read_token" 1324), (S "/claim/cut.py" 1325), (I (585) 0), (I (1) 0), (I (0) 0), (I (0) 0), (I (3) 0), (R 713), (.bool true), (I (318) 0), (R 714), Z, (R 715), (R 716), (R 717), (I (1331) 0), (I (585) 0), (S "/claim/cut.py" 1332)]), #[]⟩
noncomputable def o762 (P : Params) : Obj := ⟨(T "function"), none, (.func (fn (s2 27 6) "shlex.read_token" 3 [] Z Z Z (S "cpy313.shlex" 1253) none (R 718) Z 0)), #[]⟩
noncomputable def o763 (P : Params) : Obj := ⟨(T "tuple"), none, (sq [] 0), #[]⟩
noncomputable def o764 (P : Params) : Obj := ⟨Z, none, (fd []), #[]⟩
noncomputable def o765 (P : Params) : Obj := ⟨(T "tuple"), none, (sq [(S "self" 1337), (S "newfile" 1338)] 0), #[]⟩
noncomputable def o766 (P : Params) : Obj := ⟨(T "tuple"), none, (sq [] 0), #[]⟩
noncomputable def o767 (P : Params) : Obj := ⟨Z, none, (.func (fn (s2 27 7) "shlex.sourcehook" 0 [] Z Z Z Z none Z Z 0)), #[]⟩
noncomputable def o768 (P : Params) : Obj := ⟨(T "code"), none, (fd [(S "sourcehook" 1334), (S "shlex.sourcehook" 1335), (S "/claim/cut.py" 1336), (I (722) 0), (I (2) 0), (I (0) 0), (I (0) 0), (I (3) 0), (R 720), (.bool true), (I (318) 0), (R 721), Z, (R 722), (R 723), (R 724), (I (1339) 0), (I (722) 0), (S "/claim/cut.py" 1340)]), #[]⟩
noncomputable def o769 (P : Params) : Obj := ⟨(T "function"), none, (.func (fn (s2 27 7) "shlex.sourcehook" 3 [] Z Z Z (S "cpy313.shlex" 1253) none (R 725) Z 0)), #[]⟩
noncomputable def o770 (P : Params) : Obj := ⟨(T "tuple"), none, (sq [Z, Z] 0), #[]⟩
noncomputable def o771 (P : Params) : Obj := ⟨(T "tuple"), none, (sq [] 0), #[]⟩
noncomputable def o772 (P : Params) : Obj := ⟨Z, none, (fd []), #[]⟩
noncomputable def o773 (P : Params) : Obj := ⟨(T "tuple"), none, (sq [(S "self" 1345), (S "infile" 1346), (S "lineno" 1347)] 0), #[]⟩
noncomputable def o774 (P : Params) : Obj := ⟨(T "tuple"), none, (sq [] 0), #[]⟩
noncomputable def o775 (P : Params) : Obj := ⟨Z, none, (.func (fn (s2 27 8) "shlex.error_leader" 0 [] Z Z Z Z none Z Z 0)), #[]⟩
noncomputable def o776 (P : Params) : Obj := ⟨(T "code"), none, (fd [(S "error_leader" 1342), (S "shlex.error_leader" 1343), (S "/claim/cut.py" 1344), (I (729) 0), (I (3) 0), (I (0) 0), (I (0) 0), (I (3) 0), (R 728), (.bool true), (I (318) 0), (R 729), Z, (R 730), (R 731), (R 732), (I (1348) 0), (I (729) 0), (S "/claim/cut.py" 1349)]), #[]⟩
noncomputable def o777 (P : Params) : Obj := ⟨(T "function"), none, (.func (fn (s2 27 8) "shlex.error_leader" 3 [] (R 727) Z Z (S "cpy313.shlex" 1253) none (R 733) Z 0)), #[]⟩
noncomputable def o778 (P : Params) : Obj := ⟨(T "tuple"), none, (sq [] 0), #[]⟩
noncomputable def o779 (P : Params) : Obj := ⟨Z, none, (fd []), #[]⟩
noncomputable def o780 (P : Params) : Obj := ⟨(T "tuple"), none, (sq [(S "self" 1354)] 0), #[]⟩
noncomputable def o781 (P : Params) : Obj := ⟨(T "tuple"), none, (sq [] 0), #[]⟩
noncomputable def o782 (P : Params) : Obj := ⟨Z, none, (.func (fn (s2 27 9) "shlex.__iter__" 0 [] Z Z Z Z none Z Z 0)), #[]⟩
noncomputable def o783 (P : Params) : Obj := ⟨(T "code"), none, (fd [(S "__iter__" 1351), (S "shlex.__iter__" 1352), (S "/claim/cut.py" 1353), (I (732) 0), (I (1) 0), (I (0) 0), (I (0) 0), (I (3) 0), (R 735), (.bool true), (I (318) 0), (R 736), Z, (R 737), (R 738), (R 739), (I (1355) 0), (I (732) 0), (S "/claim/cut.py" 1356)]), #[]⟩
noncomputable def o784 (P : Params) : Obj := ⟨(T "function"), none, (.func (fn (s2 27 9) "shlex.__iter__" 3 [] Z Z Z (S "cpy313.shlex" 1253) none (R 740) Z 0)), #[]⟩
noncomputable def o785 (P : Params) : Obj := ⟨(T "tuple"), none, (sq [] 0), #[]⟩
noncomputable def o786 (P : Params) : Obj := ⟨Z, none, (fd []), #[]⟩
noncomputable def o787 (P : Params) : Obj := ⟨(T "tuple"), none, (sq [(S "self" 1361), (S "token" 1362)] 0), #[]⟩
noncomputable def o788 (P : Params) : Obj := ⟨(T "tuple"), none, (sq [] 0), #[]⟩
noncomputable def o789 (P : Params) : Obj := ⟨Z, none, (.func (fn (s2 27 10) "shlex.__next__" 0 [] Z Z Z Z none Z Z 0)), #[]⟩
noncomputable def o790 (P : Params) : Obj := ⟨(T "code"), none, (fd [(S "__next__" 1358), (S "shlex.__next__" 1359), (S "/claim/cut.py" 1360), (I (735) 0), (I (1) 0), (I (0) 0), (I (0) 0), (I (3) 0), (R 742), (.bool true), (I (318) 0), (R 743), Z, (R 744), (R 745), (R 746), (I (1363) 0), (I (735) 0), (S "/claim/cut.py" 1364)]), #[]⟩
noncomputable def o791 (P : Params) : Obj := ⟨(T "function"), none, (.func (fn (s2 27 10) "shlex.__next__" 3 [] Z Z Z (S "cpy313.shlex" 1253) none (R 747) Z 0)), #[]⟩
noncomputable def o792 (P : Params) : Obj := ⟨(T "tuple"), none, (sq [(S "_punctuation_chars" 1366), (S "_pushback_chars" 1367), (S "commenters" 1368), (S "debug" 1369), (S "eof" 1370), (S "escape" 1371), (S "escapedquotes" 1372), (S "filestack" 1373), (S "infile" 1374), (S "instream" 1375), (S "lineno" 1376), (S "posix" 1377), (S "pushback" 1378), (S "quotes" 1379), (S "source" 1380), (S "state" 1381), (S "token" 1382), (S "whitespace" 1383), (S "whitespace_split" 1384), (S "wordchars" 1385)] 0), #[]⟩
noncomputable def o793 (P : Params) : Obj := ⟨(T "dict"), none, (dc [E P "__module__" 1262 (S "cpy313.shlex" 1253), E P "__firstlineno__" 1266 (I (488) 1265), E P "__init__" 1278 (R 675), E P "punctuation_chars" 1286 (R 683), E P "push_token" 1294 (R 690), E P "push_source" 1303 (R 698), E P "pop_source" 1310 (R 705), E P "get_token" 1322 (R 712), E P "read_token" 1333 (R 719), E P "sourcehook" 1341 (R 726), E P "error_leader" 1350 (R 734), E P "__iter__" 1357 (R 741), E P "__next__" 1365 (R 748), E P "__static_attributes__" 1386 (R 749), E P "__dict__" 1388 (R 752), E P "__weakref__" 1390 (R 753), E P "__doc__" 1391 Z] 4), #[]⟩
noncomputable def o794 (P : Params) : Obj := ⟨(T "type"), none, (.cls ⟨S0 "shlex", [(T "object")], [(R 751), (T "object")], 750, S0 "shlex", true, [], [], false, none, false⟩), #[none, none, (some (S "shlex" 1255)), (some (S "shlex" 1263)), (some (B "object.__new__")), (some (.bool true))]⟩
noncomputable def o795 (P : Params) : Obj := ⟨(T "getset_descriptor"), none, (fd [(S "__dict__" 1387), (R 751), (B "function.__dict__"), (B "function.__dict__#set")]), #[]⟩
noncomputable def o796 (P : Params) : Obj := ⟨(T "getset_descriptor"), none, (fd [(S "__weakref__" 1389), (R 751), (B "ExceptionGroup.__weakref__"), Z]), #[]⟩
noncomputable def o797 (P : Params) : Obj := ⟨(T "super"), none, (fd [(R 751), (R 751), (R 751)]), #[]⟩
noncomputable def o798 (P : Params) : Obj := ⟨(T "builtin_function_or_method"), none, (fd [(B "object.__init_subclass__"), (R 751)]), #[]⟩
noncomputable def o799 (P : Params) : Obj := ⟨(T "tuple"), none, (sq [(.bool false), (.bool true)] 0), #[]⟩
noncomputable def o800 (P : Params) : Obj := ⟨(T "tuple"), none, (sq [] 0), #[]⟩
noncomputable def o801 (P : Params) : Obj := ⟨Z, none, (fd []), #[]⟩
noncomputable def o802 (P : Params) : Obj := ⟨(T "tuple"), none, (sq [(S "s" 1397), (S "comments" 1398), (S "posix" 1399), (S "lex" 1400)] 0), #[]⟩
noncomputable def o803 (P : Params) : Obj := ⟨(T "tuple"), none, (sq [] 0), #[]⟩
noncomputable def o804 (P : Params) : Obj := ⟨Z, none, (.func (fn (s1 28) "split" 0 [] Z Z Z Z none Z Z 0)), #[]⟩
noncomputable def o805 (P : Params) : Obj := ⟨(T "code"), none, (fd [(S "split" 1394), (S "split" 1395), (S "/claim/cut.py" 1396), (I (740) 0), (I (3) 0), (I (0) 0), (I (0) 0), (I (3) 0), (R 757), (.bool true), (I (318) 0), (R 758), Z, (R 759), (R 760), (R 761), (I (1401) 0), (I (740) 0), (S "/claim/cut.py" 1402)]), #[]⟩
noncomputable def o806 (P : Params) : Obj := ⟨(T "function"), none, (.func (fn (s1 28) "split" 3 [] (R 756) Z Z (S "cpy313.shlex" 1253) none (R 762) Z 0)), #[]⟩
noncomputable def o807 (P : Params) : Obj := ⟨(T "tuple"), none, (sq [] 0), #[]⟩
noncomputable def o808 (P : Params) : Obj := ⟨Z, none, (fd []), #[]⟩
noncomputable def o809 (P : Params) : Obj := ⟨(T "tuple"), none, (sq [(S "split_command" 1407)] 0), #[]⟩
noncomputable def o810 (P : Params) : Obj := ⟨(T "tuple"), none, (sq [] 0), #[]⟩
noncomputable def o811 (P : Params) : Obj := ⟨Z, none, (.func (fn (s1 29) "join" 0 [] Z Z Z Z none Z Z 0)), #[]⟩
noncomputable def o812 (P : Params) : Obj := ⟨(T "code"), none, (fd [(S "join" 1404), (S "join" 1405), (S "/claim/cut.py" 1406), (I (748) 0), (I (1) 0), (I (0) 0), (I (0) 0), (I (3) 0), (R 764), (.bool true), (I (318) 0), (R 765), Z, (R 766), (R 767), (R 768), (I (1408) 0), (I (748) 0), (S "/claim/cut.py" 1409)]), #[]⟩
noncomputable def o813 (P : Params) : Obj := ⟨(T "function"), none, (.func (fn (s1 29) "join" 3 [] Z Z Z (S "cpy313.shlex" 1253) none (R 769) Z 0)), #[]⟩
noncomputable def o814 (P : Params) : Obj := ⟨(T "builtin_function_or_method"), none, (fd [(B "re.Pattern.search"), (R 68)]), #[]⟩
noncomputable def o815 (P : Params) : Obj := ⟨(T "tuple"), none, (sq [] 0), #[]⟩
noncomputable def o816 (P : Params) : Obj := ⟨Z, none, (fd []), #[]⟩
noncomputable def o817 (P : Params) : Obj := ⟨(T "tuple"), none, (sq [(S "s" 1417)] 0), #[]⟩
noncomputable def o818 (P : Params) : Obj := ⟨(T "tuple"), none, (sq [] 0), #[]⟩
noncomputable def o819 (P : Params) : Obj := ⟨Z, none, (.func (fn (s1 32) "quote" 0 [] Z Z Z Z none Z Z 0)), #[]⟩
noncomputable def o820 (P : Params) : Obj := ⟨(T "code"), none, (fd [(S "quote" 1414), (S "quote" 1415), (S "/claim/cut.py" 1416), (I (752) 0), (I (1) 0), (I (0) 0), (I (0) 0), (I (3) 0), (R 772), (.bool true), (I (318) 0), (R 773), Z, (R 774), (R 775), (R 776), (I (1418) 0), (I (752) 0), (S "/claim/cut.py" 1419)]), #[]⟩
noncomputable def o821 (P : Params) : Obj := ⟨(T "function"), none, (.func (fn (s1 32) "quote" 3 [] Z Z Z (S "cpy313.shlex" 1253) none (R 777) Z 0)), #[]⟩
noncomputable def o822 (P : Params) : Obj := ⟨(T "tuple"), none, (sq [] 0), #[]⟩
noncomputable def o823 (P : Params) : Obj := ⟨Z, none, (fd []), #[]⟩
noncomputable def o824 (P : Params) : Obj := ⟨(T "tuple"), none, (sq [(S "numbers" 1426), (S "words" 1427), (S "x" 1428), (S "rest" 1429), (S "point" 1430)] 0), #[]⟩
noncomputable def o825 (P : Params) : Obj := ⟨(T "tuple"), none, (sq [] 0), #[]⟩
noncomputable def o826 (P : Params) : Obj := ⟨Z, none, (.func (fn (s1 34) "_law_words" 0 [] Z Z Z Z none Z Z 0)), #[]⟩
noncomputable def o827 (P : Params) : Obj := ⟨(T "code"), none, (fd [(S "_law_words" 1423), (S "_law_words" 1424), (S "/claim/cut.py" 1425), (I (759) 0), (I (1) 0), (I (0) 0), (I (0) 0), (I (3) 0), (R 779), (.bool true), (I (318) 0), (R 780), Z, (R 781), (R 782), (R 783), (I (1431) 0), (I (759) 0), (S "/claim/cut.py" 1432)]), #[]⟩
noncomputable def o828 (P : Params) : Obj := ⟨(T "function"), none, (.func (fn (s1 34) "_law_words" 3 [] Z Z Z (S "law_ny0303_01" 1421) none (R 784) Z 0)), #[]⟩
noncomputable def o829 (P : Params) : Obj := ⟨(T "tuple"), none, (sq [] 0), #[]⟩
noncomputable def o830 (P : Params) : Obj := ⟨Z, none, (fd []), #[]⟩
noncomputable def o831 (P : Params) : Obj := ⟨Z, none, (.func (fn (s1 35) "_law_told" 0 [] Z Z Z Z none Z Z 0)), #[]⟩
noncomputable def o832 (P : Params) : Obj := ⟨(T "code"), none, (fd [(S "_law_told" 1434), (S "_law_told" 1435), (S "/claim/cut.py" 1436), (I (775) 0), (I (1) 0), (I (0) 0), (I (0) 0), (I (3) 0), (R 786), (.bool true), (I (318) 0), (R 787), Z, Z, Z, (R 788), (I (1437) 0), (I (775) 0), (S "/claim/cut.py" 1438)]), #[]⟩
noncomputable def o833 (P : Params) : Obj := ⟨(T "function"), none, (.func (fn (s1 35) "_law_told" 3 [] Z Z Z (S "law_ny0303_01" 1421) none (R 789) Z 0)), #[]⟩
noncomputable def o834 (P : Params) : Obj := ⟨(T "tuple"), none, (sq [] 0), #[]⟩
noncomputable def o835 (P : Params) : Obj := ⟨Z, none, (fd []), #[]⟩
noncomputable def o836 (P : Params) : Obj := ⟨(T "tuple"), none, (sq [(S "script" 1443), (S "words" 1444)] 0), #[]⟩
noncomputable def o837 (P : Params) : Obj := ⟨(T "tuple"), none, (sq [] 0), #[]⟩
noncomputable def o838 (P : Params) : Obj := ⟨Z, none, (.func (fn (s1 36) "law" 0 [] Z Z Z Z none Z Z 0)), #[]⟩
noncomputable def o839 (P : Params) : Obj := ⟨(T "code"), none, (fd [(S "law" 1440), (S "law" 1441), (S "/claim/cut.py" 1442), (I (793) 0), (I (1) 0), (I (0) 0), (I (0) 0), (I (3) 0), (R 791), (.bool true), (I (318) 0), (R 792), Z, (R 793), (R 794), (R 795), (I (1445) 0), (I (793) 0), (S "/claim/cut.py" 1446)]), #[]⟩
noncomputable def o840 (P : Params) : Obj := ⟨(T "function"), none, (.func (fn (s1 36) "law" 3 [] Z Z Z (S "law_ny0303_01" 1421) none (R 796) Z 0)), #[]⟩
noncomputable abbrev life_g4 : Life := { }
noncomputable abbrev drawn_g4 : Drawn := { }
noncomputable abbrev gens_g4 : Array GenState := #[]
noncomputable abbrev toks_g4 : Nat := 1448
noncomputable def tree_g4 (P : Params) : BT := (N (o34 P) (N (o35 P) (N (o660 P) (N (o40 P) (N (o47 P) (N (o31 P) (N (o95 P) (N (o179 P) (N (o293 P) (N (o552 P) L L) (N (o810 P) L L)) (N (o424 P) (N (o682 P) L L) L)) (N (o229 P) (N (o357 P) (N (o616 P) L L) L) (N (o488 P) (N (o746 P) L L) L))) (N (o130 P) (N (o197 P) (N (o325 P) (N (o584 P) L L) L) (N (o456 P) (N (o714 P) L L) L)) (N (o261 P) (N (o389 P) (N (o648 P) L L) L) (N (o520 P) (N (o778 P) L L) L)))) (N (o79 P) (N (o111 P) (N (o181 P) (N (o309 P) (N (o568 P) L L) (N (o826 P) L L)) (N (o440 P) (N (o698 P) L L) L)) (N (o245 P) (N (o373 P) (N (o632 P) L L) L) (N (o504 P) (N (o762 P) L L) L))) (N (o146 P) (N (o213 P) (N (o341 P) (N (o600 P) L L) L) (N (o472 P) (N (o730 P) L L) L)) (N (o277 P) (N (o405 P) (N (o666 P) L L) L) (N (o536 P) (N (o794 P) L L) L))))) (N (o54 P) (N (o71 P) (N (o103 P) (N (o170 P) (N (o301 P) (N (o560 P) L L) (N (o818 P) L L)) (N (o432 P) (N (o690 P) L L) L)) (N (o237 P) (N (o365 P) (N (o624 P) L L) L) (N (o496 P) (N (o754 P) L L) L))) (N (o138 P) (N (o205 P) (N (o333 P) (N (o592 P) L L) L) (N (o464 P) (N (o722 P) L L) L)) (N (o269 P) (N (o397 P) (N (o656 P) L L) L) (N (o528 P) (N (o786 P) L L) L)))) (N (o87 P) (N (o122 P) (N (o189 P) (N (o317 P) (N (o576 P) L L) (N (o834 P) L L)) (N (o448 P) (N (o706 P) L L) L)) (N (o253 P) (N (o381 P) (N (o640 P) L L) L) (N (o512 P) (N (o770 P) L L) L))) (N (o154 P) (N (o221 P) (N (o349 P) (N (o608 P) L L) L) (N (o480 P) (N (o738 P) L L) L)) (N (o285 P) (N (o416 P) (N (o674 P) L L) L) (N (o544 P) (N (o802 P) L L) L)))))) (N (o43 P) (N (o19 P) (N (o661 P) (N (o99 P) (N (o166 P) (N (o297 P) (N (o556 P) L L) (N (o814 P) L L)) (N (o428 P) (N (o686 P) L L) L)) (N (o233 P) (N (o361 P) (N (o620 P) L L) L) (N (o492 P) (N (o750 P) L L) L))) (N (o134 P) (N (o201 P) (N (o329 P) (N (o588 P) L L) L) (N (o460 P) (N (o718 P) L L) L)) (N (o265 P) (N (o393 P) (N (o652 P) L L) L) (N (o524 P) (N (o782 P) L L) L)))) (N (o83 P) (N (o118 P) (N (o185 P) (N (o313 P) (N (o572 P) L L) (N (o830 P) L L)) (N (o444 P) (N (o702 P) L L) L)) (N (o249 P) (N (o377 P) (N (o636 P) L L) L) (N (o508 P) (N (o766 P) L L) L))) (N (o150 P) (N (o217 P) (N (o345 P) (N (o604 P) L L) L) (N (o476 P) (N (o734 P) L L) L)) (N (o281 P) (N (o409 P) (N (o670 P) L L) L) (N (o540 P) (N (o798 P) L L) L))))) (N (o58 P) (N (o75 P) (N (o107 P) (N (o412 P) (N (o305 P) (N (o564 P) L L) (N (o822 P) L L)) (N (o436 P) (N (o694 P) L L) L)) (N (o241 P) (N (o369 P) (N (o628 P) L L) L) (N (o500 P) (N (o758 P) L L) L))) (N (o142 P) (N (o209 P) (N (o337 P) (N (o596 P) L L) L) (N (o468 P) (N (o726 P) L L) L)) (N (o273 P) (N (o401 P) (N (o662 P) L L) L) (N (o532 P) (N (o790 P) L L) L)))) (N (o91 P) (N (o126 P) (N (o193 P) (N (o321 P) (N (o580 P) L L) (N (o838 P) L L)) (N (o452 P) (N (o710 P) L L) L)) (N (o257 P) (N (o385 P) (N (o644 P) L L) L) (N (o516 P) (N (o774 P) L L) L))) (N (o158 P) (N (o225 P) (N (o353 P) (N (o612 P) L L) L) (N (o484 P) (N (o742 P) L L) L)) (N (o289 P) (N (o420 P) (N (o678 P) L L) L) (N (o548 P) (N (o806 P) L L) L))))))) (N (o39 P) (N (o41 P) (N (o49 P) (N (o63 P) (N (o97 P) (N (o164 P) (N (o295 P) (N (o554 P) L L) (N (o812 P) L L)) (N (o426 P) (N (o684 P) L L) L)) (N (o231 P) (N (o359 P) (N (o618 P) L L) L) (N (o490 P) (N (o748 P) L L) L))) (N (o132 P) (N (o199 P) (N (o327 P) (N (o586 P) L L) L) (N (o458 P) (N (o716 P) L L) L)) (N (o263 P) (N (o391 P) (N (o650 P) L L) L) (N (o522 P) (N (o780 P) L L) L)))) (N (o81 P) (N (o113 P) (N (o183 P) (N (o311 P) (N (o570 P) L L) (N (o828 P) L L)) (N (o442 P) (N (o700 P) L L) L)) (N (o247 P) (N (o375 P) (N (o634 P) L L) L) (N (o506 P) (N (o764 P) L L) L))) (N (o148 P) (N (o215 P) (N (o343 P) (N (o602 P) L L) L) (N (o474 P) (N (o732 P) L L) L)) (N (o279 P) (N (o407 P) (N (o668 P) L L) L) (N (o538 P) (N (o796 P) L L) L))))) (N (o56 P) (N (o73 P) (N (o105 P) (N (o172 P) (N (o303 P) (N (o562 P) L L) (N (o820 P) L L)) (N (o434 P) (N (o692 P) L L) L)) (N (o239 P) (N (o367 P) (N (o626 P) L L) L) (N (o498 P) (N (o756 P) L L) L))) (N (o140 P) (N (o207 P) (N (o335 P) (N (o594 P) L L) L) (N (o466 P) (N (o724 P) L L) L)) (N (o271 P) (N (o399 P) (N (o658 P) L L) L) (N (o530 P) (N (o788 P) L L) L)))) (N (o89 P) (N (o124 P) (N (o191 P) (N (o319 P) (N (o578 P) L L) (N (o836 P) L L)) (N (o450 P) (N (o708 P) L L) L)) (N (o255 P) (N (o383 P) (N (o642 P) L L) L) (N (o514 P) (N (o772 P) L L) L))) (N (o156 P) (N (o223 P) (N (o351 P) (N (o610 P) L L) L) (N (o482 P) (N (o740 P) L L) L)) (N (o287 P) (N (o418 P) (N (o676 P) L L) L) (N (o546 P) (N (o804 P) L L) L)))))) (N (o45 P) (N (o52 P) (N (o67 P) (N (o101 P) (N (o168 P) (N (o299 P) (N (o558 P) L L) (N (o816 P) L L)) (N (o430 P) (N (o688 P) L L) L)) (N (o235 P) (N (o363 P) (N (o622 P) L L) L) (N (o494 P) (N (o752 P) L L) L))) (N (o136 P) (N (o203 P) (N (o331 P) (N (o590 P) L L) L) (N (o462 P) (N (o720 P) L L) L)) (N (o267 P) (N (o395 P) (N (o654 P) L L) L) (N (o526 P) (N (o784 P) L L) L)))) (N (o85 P) (N (o120 P) (N (o187 P) (N (o315 P) (N (o574 P) L L) (N (o832 P) L L)) (N (o446 P) (N (o704 P) L L) L)) (N (o251 P) (N (o379 P) (N (o638 P) L L) L) (N (o510 P) (N (o768 P) L L) L))) (N (o152 P) (N (o219 P) (N (o347 P) (N (o606 P) L L) L) (N (o478 P) (N (o736 P) L L) L)) (N (o283 P) (N (o414 P) (N (o672 P) L L) L) (N (o542 P) (N (o800 P) L L) L))))) (N (o60 P) (N (o77 P) (N (o109 P) (N (o176 P) (N (o307 P) (N (o566 P) L L) (N (o824 P) L L)) (N (o438 P) (N (o696 P) L L) L)) (N (o243 P) (N (o371 P) (N (o630 P) L L) L) (N (o502 P) (N (o760 P) L L) L))) (N (o144 P) (N (o211 P) (N (o339 P) (N (o598 P) L L) L) (N (o470 P) (N (o728 P) L L) L)) (N (o275 P) (N (o403 P) (N (o664 P) L L) L) (N (o534 P) (N (o792 P) L L) L)))) (N (o93 P) (N (o128 P) (N (o195 P) (N (o323 P) (N (o582 P) L L) (N (o840 P) L L)) (N (o454 P) (N (o712 P) L L) L)) (N (o259 P) (N (o387 P) (N (o646 P) L L) L) (N (o518 P) (N (o776 P) L L) L))) (N (o160 P) (N (o227 P) (N (o355 P) (N (o614 P) L L) L) (N (o486 P) (N (o744 P) L L) L)) (N (o291 P) (N (o422 P) (N (o680 P) L L) L) (N (o550 P) (N (o808 P) L L) L)))))))) (N (o115 P) (N (o38 P) (N (o8 P) (N (o48 P) (N (o62 P) (N (o96 P) (N (o163 P) (N (o294 P) (N (o553 P) L L) (N (o811 P) L L)) (N (o425 P) (N (o683 P) L L) L)) (N (o230 P) (N (o358 P) (N (o617 P) L L) L) (N (o489 P) (N (o747 P) L L) L))) (N (o131 P) (N (o198 P) (N (o326 P) (N (o585 P) L L) L) (N (o457 P) (N (o715 P) L L) L)) (N (o262 P) (N (o390 P) (N (o649 P) L L) L) (N (o521 P) (N (o779 P) L L) L)))) (N (o80 P) (N (o112 P) (N (o182 P) (N (o310 P) (N (o569 P) L L) (N (o827 P) L L)) (N (o441 P) (N (o699 P) L L) L)) (N (o246 P) (N (o374 P) (N (o633 P) L L) L) (N (o505 P) (N (o763 P) L L) L))) (N (o147 P) (N (o214 P) (N (o342 P) (N (o601 P) L L) L) (N (o473 P) (N (o731 P) L L) L)) (N (o278 P) (N (o406 P) (N (o667 P) L L) L) (N (o537 P) (N (o795 P) L L) L))))) (N (o55 P) (N (o72 P) (N (o104 P) (N (o171 P) (N (o302 P) (N (o561 P) L L) (N (o819 P) L L)) (N (o433 P) (N (o691 P) L L) L)) (N (o238 P) (N (o366 P) (N (o625 P) L L) L) (N (o497 P) (N (o755 P) L L) L))) (N (o139 P) (N (o206 P) (N (o334 P) (N (o593 P) L L) L) (N (o465 P) (N (o723 P) L L) L)) (N (o270 P) (N (o398 P) (N (o657 P) L L) L) (N (o529 P) (N (o787 P) L L) L)))) (N (o88 P) (N (o123 P) (N (o190 P) (N (o318 P) (N (o577 P) L L) (N (o835 P) L L)) (N (o449 P) (N (o707 P) L L) L)) (N (o254 P) (N (o382 P) (N (o641 P) L L) L) (N (o513 P) (N (o771 P) L L) L))) (N (o155 P) (N (o222 P) (N (o350 P) (N (o609 P) L L) L) (N (o481 P) (N (o739 P) L L) L)) (N (o286 P) (N (o417 P) (N (o675 P) L L) L) (N (o545 P) (N (o803 P) L L) L)))))) (N (o44 P) (N (o51 P) (N (o66 P) (N (o100 P) (N (o167 P) (N (o298 P) (N (o557 P) L L) (N (o815 P) L L)) (N (o429 P) (N (o687 P) L L) L)) (N (o234 P) (N (o362 P) (N (o621 P) L L) L) (N (o493 P) (N (o751 P) L L) L))) (N (o135 P) (N (o202 P) (N (o330 P) (N (o589 P) L L) L) (N (o461 P) (N (o719 P) L L) L)) (N (o266 P) (N (o394 P) (N (o653 P) L L) L) (N (o525 P) (N (o783 P) L L) L)))) (N (o84 P) (N (o119 P) (N (o186 P) (N (o314 P) (N (o573 P) L L) (N (o831 P) L L)) (N (o445 P) (N (o703 P) L L) L)) (N (o250 P) (N (o378 P) (N (o637 P) L L) L) (N (o509 P) (N (o767 P) L L) L))) (N (o151 P) (N (o218 P) (N (o346 P) (N (o605 P) L L) L) (N (o477 P) (N (o735 P) L L) L)) (N (o282 P) (N (o413 P) (N (o671 P) L L) L) (N (o541 P) (N (o799 P) L L) L))))) (N (o59 P) (N (o76 P) (N (o108 P) (N (o175 P) (N (o306 P) (N (o565 P) L L) (N (o823 P) L L)) (N (o437 P) (N (o695 P) L L) L)) (N (o242 P) (N (o370 P) (N (o629 P) L L) L) (N (o501 P) (N (o759 P) L L) L))) (N (o143 P) (N (o210 P) (N (o338 P) (N (o597 P) L L) L) (N (o469 P) (N (o727 P) L L) L)) (N (o274 P) (N (o402 P) (N (o663 P) L L) L) (N (o533 P) (N (o791 P) L L) L)))) (N (o92 P) (N (o127 P) (N (o194 P) (N (o322 P) (N (o581 P) L L) (N (o839 P) L L)) (N (o453 P) (N (o711 P) L L) L)) (N (o258 P) (N (o386 P) (N (o645 P) L L) L) (N (o517 P) (N (o775 P) L L) L))) (N (o159 P) (N (o226 P) (N (o354 P) (N (o613 P) L L) L) (N (o485 P) (N (o743 P) L L) L)) (N (o290 P) (N (o421 P) (N (o679 P) L L) L) (N (o549 P) (N (o807 P) L L) L))))))) (N (o6 P) (N (o42 P) (N (o50 P) (N (o64 P) (N (o98 P) (N (o165 P) (N (o296 P) (N (o555 P) L L) (N (o813 P) L L)) (N (o427 P) (N (o685 P) L L) L)) (N (o232 P) (N (o360 P) (N (o619 P) L L) L) (N (o491 P) (N (o749 P) L L) L))) (N (o133 P) (N (o200 P) (N (o328 P) (N (o587 P) L L) L) (N (o459 P) (N (o717 P) L L) L)) (N (o264 P) (N (o392 P) (N (o651 P) L L) L) (N (o523 P) (N (o781 P) L L) L)))) (N (o82 P) (N (o114 P) (N (o184 P) (N (o312 P) (N (o571 P) L L) (N (o829 P) L L)) (N (o443 P) (N (o701 P) L L) L)) (N (o248 P) (N (o376 P) (N (o635 P) L L) L) (N (o507 P) (N (o765 P) L L) L))) (N (o149 P) (N (o216 P) (N (o344 P) (N (o603 P) L L) L) (N (o475 P) (N (o733 P) L L) L)) (N (o280 P) (N (o408 P) (N (o669 P) L L) L) (N (o539 P) (N (o797 P) L L) L))))) (N (o57 P) (N (o74 P) (N (o106 P) (N (o173 P) (N (o304 P) (N (o563 P) L L) (N (o821 P) L L)) (N (o435 P) (N (o693 P) L L) L)) (N (o240 P) (N (o368 P) (N (o627 P) L L) L) (N (o499 P) (N (o757 P) L L) L))) (N (o141 P) (N (o208 P) (N (o336 P) (N (o595 P) L L) L) (N (o467 P) (N (o725 P) L L) L)) (N (o272 P) (N (o400 P) (N (o659 P) L L) L) (N (o531 P) (N (o789 P) L L) L)))) (N (o90 P) (N (o125 P) (N (o192 P) (N (o320 P) (N (o579 P) L L) (N (o837 P) L L)) (N (o451 P) (N (o709 P) L L) L)) (N (o256 P) (N (o384 P) (N (o643 P) L L) L) (N (o515 P) (N (o773 P) L L) L))) (N (o157 P) (N (o224 P) (N (o352 P) (N (o611 P) L L) L) (N (o483 P) (N (o741 P) L L) L)) (N (o288 P) (N (o419 P) (N (o677 P) L L) L) (N (o547 P) (N (o805 P) L L) L)))))) (N (o46 P) (N (o53 P) (N (o70 P) (N (o102 P) (N (o169 P) (N (o300 P) (N (o559 P) L L) (N (o817 P) L L)) (N (o431 P) (N (o689 P) L L) L)) (N (o236 P) (N (o364 P) (N (o623 P) L L) L) (N (o495 P) (N (o753 P) L L) L))) (N (o137 P) (N (o204 P) (N (o332 P) (N (o591 P) L L) L) (N (o463 P) (N (o721 P) L L) L)) (N (o268 P) (N (o396 P) (N (o655 P) L L) L) (N (o527 P) (N (o785 P) L L) L)))) (N (o86 P) (N (o121 P) (N (o188 P) (N (o316 P) (N (o575 P) L L) (N (o833 P) L L)) (N (o447 P) (N (o705 P) L L) L)) (N (o252 P) (N (o380 P) (N (o639 P) L L) L) (N (o511 P) (N (o769 P) L L) L))) (N (o153 P) (N (o220 P) (N (o348 P) (N (o607 P) L L) L) (N (o479 P) (N (o737 P) L L) L)) (N (o284 P) (N (o415 P) (N (o673 P) L L) L) (N (o543 P) (N (o801 P) L L) L))))) (N (o61 P) (N (o78 P) (N (o110 P) (N (o180 P) (N (o308 P) (N (o567 P) L L) (N (o825 P) L L)) (N (o439 P) (N (o697 P) L L) L)) (N (o244 P) (N (o372 P) (N (o631 P) L L) L) (N (o503 P) (N (o761 P) L L) L))) (N (o145 P) (N (o212 P) (N (o340 P) (N (o599 P) L L) L) (N (o471 P) (N (o729 P) L L) L)) (N (o276 P) (N (o404 P) (N (o665 P) L L) L) (N (o535 P) (N (o793 P) L L) L)))) (N (o94 P) (N (o129 P) (N (o196 P) (N (o324 P) (N (o583 P) L L) L) (N (o455 P) (N (o713 P) L L) L)) (N (o260 P) (N (o388 P) (N (o647 P) L L) L) (N (o519 P) (N (o777 P) L L) L))) (N (o161 P) (N (o228 P) (N (o356 P) (N (o615 P) L L) L) (N (o487 P) (N (o745 P) L L) L)) (N (o292 P) (N (o423 P) (N (o681 P) L L) L) (N (o551 P) (N (o809 P) L L) L)))))))))
noncomputable abbrev stT_g4 (w : World) (os : OsState) : SharedT := ⟨tree_g4 w.params, 798, life_g4, gens_g4, drawn_g4, toks_g4, os⟩
noncomputable abbrev st_g4 (w : World) (os : OsState) : Shared := SharedT.abs (stT_g4 w os)
noncomputable abbrev life_f : Life := { }
noncomputable abbrev drawn_f : Drawn := { }
noncomputable abbrev gens_f : Array GenState := #[]
noncomputable abbrev toks_f : Nat := 1448
noncomputable def heap_f (P : Params) : Heap := ⟨⟨[o34 P, o35 P, o115 P, o660 P, o38 P, o39 P, o6 P, o40 P, o8 P, o41 P, o42 P, o43 P, o44 P, o45 P, o46 P, o47 P, o48 P, o49 P, o50 P, o19 P, o51 P, o52 P, o53 P, o54 P, o55 P, o56 P, o57 P, o58 P, o59 P, o60 P, o61 P, o31 P, o62 P, o63 P, o64 P, o661 P, o66 P, o67 P, o70 P, o71 P, o72 P, o73 P, o74 P, o75 P, o76 P, o77 P, o78 P, o79 P, o80 P, o81 P, o82 P, o83 P, o84 P, o85 P, o86 P, o87 P, o88 P, o89 P, o90 P, o91 P, o92 P, o93 P, o94 P, o95 P, o96 P, o97 P, o98 P, o99 P, o100 P, o101 P, o102 P, o103 P, o104 P, o105 P, o106 P, o107 P, o108 P, o109 P, o110 P, o111 P, o112 P, o113 P, o114 P, o118 P, o119 P, o120 P, o121 P, o122 P, o123 P, o124 P, o125 P, o126 P, o127 P, o128 P, o129 P, o130 P, o131 P, o132 P, o133 P, o134 P, o135 P, o136 P, o137 P, o138 P, o139 P, o140 P, o141 P, o142 P, o143 P, o144 P, o145 P, o146 P, o147 P, o148 P, o149 P, o150 P, o151 P, o152 P, o153 P, o154 P, o155 P, o156 P, o157 P, o158 P, o159 P, o160 P, o161 P, o179 P, o163 P, o164 P, o165 P, o166 P, o167 P, o168 P, o169 P, o170 P, o171 P, o172 P, o173 P, o412 P, o175 P, o176 P, o180 P, o181 P, o182 P, o183 P, o184 P, o185 P, o186 P, o187 P, o188 P, o189 P, o190 P, o191 P, o192 P, o193 P, o194 P, o195 P, o196 P, o197 P, o198 P, o199 P, o200 P, o201 P, o202 P, o203 P, o204 P, o205 P, o206 P, o207 P, o208 P, o209 P, o210 P, o211 P, o212 P, o213 P, o214 P, o215 P, o216 P, o217 P, o218 P, o219 P, o220 P, o221 P, o222 P, o223 P, o224 P, o225 P, o226 P, o227 P, o228 P, o229 P, o230 P, o231 P, o232 P, o233 P, o234 P, o235 P, o236 P, o237 P, o238 P, o239 P, o240 P, o241 P, o242 P, o243 P, o244 P, o245 P, o246 P, o247 P, o248 P, o249 P, o250 P, o251 P, o252 P, o253 P, o254 P, o255 P, o256 P, o257 P, o258 P, o259 P, o260 P, o261 P, o262 P, o263 P, o264 P, o265 P, o266 P, o267 P, o268 P, o269 P, o270 P, o271 P, o272 P, o273 P, o274 P, o275 P, o276 P, o277 P, o278 P, o279 P, o280 P, o281 P, o282 P, o283 P, o284 P, o285 P, o286 P, o287 P, o288 P, o289 P, o290 P, o291 P, o292 P, o293 P, o294 P, o295 P, o296 P, o297 P, o298 P, o299 P, o300 P, o301 P, o302 P, o303 P, o304 P, o305 P, o306 P, o307 P, o308 P, o309 P, o310 P, o311 P, o312 P, o313 P, o314 P, o315 P, o316 P, o317 P, o318 P, o319 P, o320 P, o321 P, o322 P, o323 P, o324 P, o325 P, o326 P, o327 P, o328 P, o329 P, o330 P, o331 P, o332 P, o333 P, o334 P, o335 P, o336 P, o337 P, o338 P, o339 P, o340 P, o341 P, o342 P, o343 P, o344 P, o345 P, o346 P, o347 P, o348 P, o349 P, o350 P, o351 P, o352 P, o353 P, o354 P, o355 P, o356 P, o357 P, o358 P, o359 P, o360 P, o361 P, o362 P, o363 P, o364 P, o365 P, o366 P, o367 P, o368 P, o369 P, o370 P, o371 P, o372 P, o373 P, o374 P, o375 P, o376 P, o377 P, o378 P, o379 P, o380 P, o381 P, o382 P, o383 P, o384 P, o385 P, o386 P, o387 P, o388 P, o389 P, o390 P, o391 P, o392 P, o393 P, o394 P, o395 P, o396 P, o397 P, o398 P, o399 P, o400 P, o401 P, o402 P, o403 P, o404 P, o405 P, o406 P, o407 P, o408 P, o409 P, o413 P, o414 P, o415 P, o416 P, o417 P, o418 P, o419 P, o420 P, o421 P, o422 P, o423 P, o424 P, o425 P, o426 P, o427 P, o428 P, o429 P, o430 P, o431 P, o432 P, o433 P, o434 P, o435 P, o436 P, o437 P, o438 P, o439 P, o440 P, o441 P, o442 P, o443 P, o444 P, o445 P, o446 P, o447 P, o448 P, o449 P, o450 P, o451 P, o452 P, o453 P, o454 P, o455 P, o456 P, o457 P, o458 P, o459 P, o460 P, o461 P, o462 P, o463 P, o464 P, o465 P, o466 P, o467 P, o468 P, o469 P, o470 P, o471 P, o472 P, o473 P, o474 P, o475 P, o476 P, o477 P, o478 P, o479 P, o480 P, o481 P, o482 P, o483 P, o484 P, o485 P, o486 P, o487 P, o488 P, o489 P, o490 P, o491 P, o492 P, o493 P, o494 P, o495 P, o496 P, o497 P, o498 P, o499 P, o500 P, o501 P, o502 P, o503 P, o504 P, o505 P, o506 P, o507 P, o508 P, o509 P, o510 P, o511 P, o512 P, o513 P, o514 P, o515 P, o516 P, o517 P, o518 P, o519 P, o520 P, o521 P, o522 P, o523 P, o524 P, o525 P, o526 P, o527 P, o528 P, o529 P, o530 P, o531 P, o532 P, o533 P, o534 P, o535 P, o536 P, o537 P, o538 P, o539 P, o540 P, o541 P, o542 P, o543 P, o544 P, o545 P, o546 P, o547 P, o548 P, o549 P, o550 P, o551 P, o552 P, o553 P, o554 P, o555 P, o556 P, o557 P, o558 P, o559 P, o560 P, o561 P, o562 P, o563 P, o564 P, o565 P, o566 P, o567 P, o568 P, o569 P, o570 P, o571 P, o572 P, o573 P, o574 P, o575 P, o576 P, o577 P, o578 P, o579 P, o580 P, o581 P, o582 P, o583 P, o584 P, o585 P, o586 P, o587 P, o588 P, o589 P, o590 P, o591 P, o592 P, o593 P, o594 P, o595 P, o596 P, o597 P, o598 P, o599 P, o600 P, o601 P, o602 P, o603 P, o604 P, o605 P, o606 P, o607 P, o608 P, o609 P, o610 P, o611 P, o612 P, o613 P, o614 P, o615 P, o616 P, o617 P, o618 P, o619 P, o620 P, o621 P, o622 P, o623 P, o624 P, o625 P, o626 P, o627 P, o628 P, o629 P, o630 P, o631 P, o632 P, o633 P, o634 P, o635 P, o636 P, o637 P, o638 P, o639 P, o640 P, o641 P, o642 P, o643 P, o644 P, o645 P, o646 P, o647 P, o648 P, o649 P, o650 P, o651 P, o652 P, o653 P, o654 P, o655 P, o656 P, o657 P, o658 P, o659 P, o662 P, o663 P, o664 P, o665 P, o666 P, o667 P, o668 P, o669 P, o670 P, o671 P, o672 P, o673 P, o674 P, o675 P, o676 P, o677 P, o678 P, o679 P, o680 P, o681 P, o682 P, o683 P, o684 P, o685 P, o686 P, o687 P, o688 P, o689 P, o690 P, o691 P, o692 P, o693 P, o694 P, o695 P, o696 P, o697 P, o698 P, o699 P, o700 P, o701 P, o702 P, o703 P, o704 P, o705 P, o706 P, o707 P, o708 P, o709 P, o710 P, o711 P, o712 P, o713 P, o714 P, o715 P, o716 P, o717 P, o718 P, o719 P, o720 P, o721 P, o722 P, o723 P, o724 P, o725 P, o726 P, o727 P, o728 P, o729 P, o730 P, o731 P, o732 P, o733 P, o734 P, o735 P, o736 P, o737 P, o738 P, o739 P, o740 P, o741 P, o742 P, o743 P, o744 P, o745 P, o746 P, o747 P, o748 P, o749 P, o750 P, o751 P, o752 P, o753 P, o754 P, o755 P, o756 P, o757 P, o758 P, o759 P, o760 P, o761 P, o762 P, o763 P, o764 P, o765 P, o766 P, o767 P, o768 P, o769 P, o770 P, o771 P, o772 P, o773 P, o774 P, o775 P, o776 P, o777 P, o778 P, o779 P, o780 P, o781 P, o782 P, o783 P, o784 P, o785 P, o786 P, o787 P, o788 P, o789 P, o790 P, o791 P, o792 P, o793 P, o794 P, o795 P, o796 P, o797 P, o798 P, o799 P, o800 P, o801 P, o802 P, o803 P, o804 P, o805 P, o806 P, o807 P, o808 P, o809 P, o810 P, o811 P, o812 P, o813 P, o814 P, o815 P, o816 P, o817 P, o818 P, o819 P, o820 P, o821 P, o822 P, o823 P, o824 P, o825 P, o826 P, o827 P, o828 P, o829 P, o830 P, o831 P, o832 P, o833 P, o834 P, o835 P, o836 P, o837 P, o838 P, o839 P, o840 P]⟩, life_f⟩
noncomputable abbrev st_f (w : World) (os : OsState) : Shared := ⟨heap_f w.params, gens_f, drawn_f, toks_f, os⟩
noncomputable abbrev bE : List Stmt := behindTheImports PySem.Challenge.pw_ny0303_01
noncomputable abbrev env : Env := { scope := PySem.Challenge.pw_ny0303_01.main.scope, locals := mainNs, globals := mainNs, cells := [], code := (R 36), frame := some 37 }
noncomputable abbrev cE : Code := .body bE env
noncomputable abbrev fp : Pos := ⟨0, 0, 0, 0⟩
noncomputable abbrev m0 : Nat := 34
noncomputable abbrev ann : Option Value := (some (R 6))
noncomputable abbrev impN : Nat := 1085
noncomputable abbrev preN : Nat := 12
noncomputable abbrev blockN : Nat := 0
noncomputable abbrev finN : Nat := 1
noncomputable abbrev pos_a : Pos := ⟨0, 0, 0, 0⟩
noncomputable abbrev pos_b : Pos := ⟨0, 0, 0, 0⟩
noncomputable abbrev pos_f : Pos := ⟨793, 0, 795, 76⟩
noncomputable abbrev topN : Nat := 12790
noncomputable abbrev sts_g0 : List Stmt := (bE.drop 0).take 10
noncomputable abbrev n_g0 : Nat := 1511
noncomputable abbrev pos_g0 : Pos := ⟨28, 0, 34, 12⟩
noncomputable abbrev sts_g1 : List Stmt := (bE.drop 10).take 4
noncomputable abbrev n_g1 : Nat := 893
noncomputable abbrev pos_g1 : Pos := ⟨46, 0, 47, 21⟩
noncomputable abbrev sts_g2 : List Stmt := (bE.drop 14).take 1
noncomputable abbrev n_g2 : Nat := 1277
noncomputable abbrev pos_g2 : Pos := ⟨48, 0, 217, 17⟩
noncomputable abbrev sts_g3 : List Stmt := (bE.drop 15).take 2
noncomputable abbrev n_g3 : Nat := 1586
noncomputable abbrev pos_g3 : Pos := ⟨423, 0, 423, 8⟩
noncomputable abbrev sts_g4 : List Stmt := (bE.drop 17).take 18
noncomputable abbrev n_g4 : Nat := 1065
noncomputable abbrev pos_g4 : Pos := ⟨793, 0, 795, 76⟩
noncomputable abbrev fragA : List Nat := [2, 3, 38, 40, 41, 43, 44, 46, 50, 52, 53, 55, 56, 57, 59, 60, 62, 63, 67, 68, 69, 71, 72, 74, 75, 76, 78, 79, 81, 82, 83, 90, 91, 92, 93, 103, 105, 106, 108, 109, 110, 111, 112, 113, 114, 115, 118, 125, 126, 127, 130, 137, 138, 139, 142, 149, 150, 152, 153, 155, 156, 157, 159, 160, 162, 163, 164, 166, 167, 169, 170, 171, 173, 174, 176, 177, 178, 179, 181, 182, 184, 185, 186, 188, 189, 191, 192, 193, 195, 196, 198, 199, 200, 202, 203, 205, 206, 207, 209, 210, 212, 213, 214, 216, 217, 219, 220, 221, 223, 224, 226, 227, 228, 230, 231, 233, 234, 235, 237, 238, 240, 241, 242, 244, 245, 247, 248, 249, 251, 252, 254, 255, 256, 258, 259, 261, 262, 263, 265, 266, 268, 269, 270, 271, 273, 274, 276, 277, 278, 279, 281, 282, 284, 285, 286, 287, 289, 290, 292, 293, 294, 295, 297, 298, 300, 301, 302, 304, 305, 307, 308, 309, 311, 312, 314, 315, 316, 317, 319, 320, 322, 323, 324, 325, 327, 328, 330, 331, 332, 334, 335, 337, 338, 339, 341, 342, 344, 345, 346, 348, 349, 351, 352, 353, 355, 356, 358, 359, 360, 362, 363, 365, 366, 367, 368, 369, 372, 379, 380, 382, 383, 385, 386, 387, 389, 390, 392, 393, 394, 396, 397, 399, 400, 401, 403, 404, 406, 407, 408, 410, 411, 413, 414, 415, 417, 418, 420, 421, 422, 423, 425, 426, 428, 429, 430, 431, 433, 434, 436, 437, 438, 439, 441, 442, 444, 445, 446, 447, 449, 450, 452, 453, 454, 455, 457, 458, 460, 461, 462, 464, 465, 467, 468, 469, 471, 472, 474, 475, 476, 478, 479, 481, 482, 483, 485, 486, 488, 489, 490, 492, 493, 495, 496, 497, 499, 500, 502, 503, 504, 506, 507, 509, 510, 511, 513, 514, 516, 517, 518, 520, 521, 523, 524, 525, 527, 528, 530, 531, 532, 534, 535, 537, 538, 539, 540, 542, 543, 545, 546, 547, 548, 550, 551, 553, 554, 555, 556, 558, 559, 561, 562, 563, 564, 566, 567, 569, 570, 571, 572, 574, 575, 577, 578, 579, 581, 582, 584, 585, 586, 588, 589, 591, 592, 593, 595, 596, 598, 599, 600, 602, 603, 605, 606, 607, 609, 610, 612, 613, 614, 615, 616, 619, 621, 622, 624, 625, 626, 628, 629, 631, 632, 633, 635, 636, 638, 639, 640, 642, 643, 645, 646, 647, 649, 650, 652, 653, 654, 656, 657, 659, 660, 668, 669, 671, 672, 674, 675, 676, 678, 679, 681, 682, 683, 684, 686, 687, 689, 690, 691, 692, 694, 695, 697, 698, 699, 701, 702, 704, 705, 706, 708, 709, 711, 712, 713, 715, 716, 718, 719, 720, 722, 723, 725, 726, 727, 728, 730, 731, 733, 734, 735, 737, 738, 740, 741, 742, 744, 745, 747, 748, 749, 750, 751, 752, 753, 756, 757, 759, 760, 762, 763, 764, 766, 767, 769, 770, 771, 772, 774, 775, 777, 778, 779, 781, 782, 784, 785, 786, 789, 790, 791, 793, 794, 796, 797]
noncomputable def frag (P : Params) : Frag := (nat_lit 2, o115 P) :: (nat_lit 3, o660 P) :: (nat_lit 38, o70 P) :: (nat_lit 40, o72 P) :: (nat_lit 41, o73 P) :: (nat_lit 43, o75 P) :: (nat_lit 44, o76 P) :: (nat_lit 46, o78 P) :: (nat_lit 50, o82 P) :: (nat_lit 52, o84 P) :: (nat_lit 53, o85 P) :: (nat_lit 55, o87 P) :: (nat_lit 56, o88 P) :: (nat_lit 57, o89 P) :: (nat_lit 59, o91 P) :: (nat_lit 60, o92 P) :: (nat_lit 62, o94 P) :: (nat_lit 63, o95 P) :: (nat_lit 67, o99 P) :: (nat_lit 68, o100 P) :: (nat_lit 69, o101 P) :: (nat_lit 71, o103 P) :: (nat_lit 72, o104 P) :: (nat_lit 74, o106 P) :: (nat_lit 75, o107 P) :: (nat_lit 76, o108 P) :: (nat_lit 78, o110 P) :: (nat_lit 79, o111 P) :: (nat_lit 81, o113 P) :: (nat_lit 82, o114 P) :: (nat_lit 83, o118 P) :: (nat_lit 90, o125 P) :: (nat_lit 91, o126 P) :: (nat_lit 92, o127 P) :: (nat_lit 93, o128 P) :: (nat_lit 103, o138 P) :: (nat_lit 105, o140 P) :: (nat_lit 106, o141 P) :: (nat_lit 108, o143 P) :: (nat_lit 109, o144 P) :: (nat_lit 110, o145 P) :: (nat_lit 111, o146 P) :: (nat_lit 112, o147 P) :: (nat_lit 113, o148 P) :: (nat_lit 114, o149 P) :: (nat_lit 115, o150 P) :: (nat_lit 118, o153 P) :: (nat_lit 125, o160 P) :: (nat_lit 126, o161 P) :: (nat_lit 127, o179 P) :: (nat_lit 130, o165 P) :: (nat_lit 137, o172 P) :: (nat_lit 138, o173 P) :: (nat_lit 139, o412 P) :: (nat_lit 142, o180 P) :: (nat_lit 149, o187 P) :: (nat_lit 150, o188 P) :: (nat_lit 152, o190 P) :: (nat_lit 153, o191 P) :: (nat_lit 155, o193 P) :: (nat_lit 156, o194 P) :: (nat_lit 157, o195 P) :: (nat_lit 159, o197 P) :: (nat_lit 160, o198 P) :: (nat_lit 162, o200 P) :: (nat_lit 163, o201 P) :: (nat_lit 164, o202 P) :: (nat_lit 166, o204 P) :: (nat_lit 167, o205 P) :: (nat_lit 169, o207 P) :: (nat_lit 170, o208 P) :: (nat_lit 171, o209 P) :: (nat_lit 173, o211 P) :: (nat_lit 174, o212 P) :: (nat_lit 176, o214 P) :: (nat_lit 177, o215 P) :: (nat_lit 178, o216 P) :: (nat_lit 179, o217 P) :: (nat_lit 181, o219 P) :: (nat_lit 182, o220 P) :: (nat_lit 184, o222 P) :: (nat_lit 185, o223 P) :: (nat_lit 186, o224 P) :: (nat_lit 188, o226 P) :: (nat_lit 189, o227 P) :: (nat_lit 191, o229 P) :: (nat_lit 192, o230 P) :: (nat_lit 193, o231 P) :: (nat_lit 195, o233 P) :: (nat_lit 196, o234 P) :: (nat_lit 198, o236 P) :: (nat_lit 199, o237 P) :: (nat_lit 200, o238 P) :: (nat_lit 202, o240 P) :: (nat_lit 203, o241 P) :: (nat_lit 205, o243 P) :: (nat_lit 206, o244 P) :: (nat_lit 207, o245 P) :: (nat_lit 209, o247 P) :: (nat_lit 210, o248 P) :: (nat_lit 212, o250 P) :: (nat_lit 213, o251 P) :: (nat_lit 214, o252 P) :: (nat_lit 216, o254 P) :: (nat_lit 217, o255 P) :: (nat_lit 219, o257 P) :: (nat_lit 220, o258 P) :: (nat_lit 221, o259 P) :: (nat_lit 223, o261 P) :: (nat_lit 224, o262 P) :: (nat_lit 226, o264 P) :: (nat_lit 227, o265 P) :: (nat_lit 228, o266 P) :: (nat_lit 230, o268 P) :: (nat_lit 231, o269 P) :: (nat_lit 233, o271 P) :: (nat_lit 234, o272 P) :: (nat_lit 235, o273 P) :: (nat_lit 237, o275 P) :: (nat_lit 238, o276 P) :: (nat_lit 240, o278 P) :: (nat_lit 241, o279 P) :: (nat_lit 242, o280 P) :: (nat_lit 244, o282 P) :: (nat_lit 245, o283 P) :: (nat_lit 247, o285 P) :: (nat_lit 248, o286 P) :: (nat_lit 249, o287 P) :: (nat_lit 251, o289 P) :: (nat_lit 252, o290 P) :: (nat_lit 254, o292 P) :: (nat_lit 255, o293 P) :: (nat_lit 256, o294 P) :: (nat_lit 258, o296 P) :: (nat_lit 259, o297 P) :: (nat_lit 261, o299 P) :: (nat_lit 262, o300 P) :: (nat_lit 263, o301 P) :: (nat_lit 265, o303 P) :: (nat_lit 266, o304 P) :: (nat_lit 268, o306 P) :: (nat_lit 269, o307 P) :: (nat_lit 270, o308 P) :: (nat_lit 271, o309 P) :: (nat_lit 273, o311 P) :: (nat_lit 274, o312 P) :: (nat_lit 276, o314 P) :: (nat_lit 277, o315 P) :: (nat_lit 278, o316 P) :: (nat_lit 279, o317 P) :: (nat_lit 281, o319 P) :: (nat_lit 282, o320 P) :: (nat_lit 284, o322 P) :: (nat_lit 285, o323 P) :: (nat_lit 286, o324 P) :: (nat_lit 287, o325 P) :: (nat_lit 289, o327 P) :: (nat_lit 290, o328 P) :: (nat_lit 292, o330 P) :: (nat_lit 293, o331 P) :: (nat_lit 294, o332 P) :: (nat_lit 295, o333 P) :: (nat_lit 297, o335 P) :: (nat_lit 298, o336 P) :: (nat_lit 300, o338 P) :: (nat_lit 301, o339 P) :: (nat_lit 302, o340 P) :: (nat_lit 304, o342 P) :: (nat_lit 305, o343 P) :: (nat_lit 307, o345 P) :: (nat_lit 308, o346 P) :: (nat_lit 309, o347 P) :: (nat_lit 311, o349 P) :: (nat_lit 312, o350 P) :: (nat_lit 314, o352 P) :: (nat_lit 315, o353 P) :: (nat_lit 316, o354 P) :: (nat_lit 317, o355 P) :: (nat_lit 319, o357 P) :: (nat_lit 320, o358 P) :: (nat_lit 322, o360 P) :: (nat_lit 323, o361 P) :: (nat_lit 324, o362 P) :: (nat_lit 325, o363 P) :: (nat_lit 327, o365 P) :: (nat_lit 328, o366 P) :: (nat_lit 330, o368 P) :: (nat_lit 331, o369 P) :: (nat_lit 332, o370 P) :: (nat_lit 334, o372 P) :: (nat_lit 335, o373 P) :: (nat_lit 337, o375 P) :: (nat_lit 338, o376 P) :: (nat_lit 339, o377 P) :: (nat_lit 341, o379 P) :: (nat_lit 342, o380 P) :: (nat_lit 344, o382 P) :: (nat_lit 345, o383 P) :: (nat_lit 346, o384 P) :: (nat_lit 348, o386 P) :: (nat_lit 349, o387 P) :: (nat_lit 351, o389 P) :: (nat_lit 352, o390 P) :: (nat_lit 353, o391 P) :: (nat_lit 355, o393 P) :: (nat_lit 356, o394 P) :: (nat_lit 358, o396 P) :: (nat_lit 359, o397 P) :: (nat_lit 360, o398 P) :: (nat_lit 362, o400 P) :: (nat_lit 363, o401 P) :: (nat_lit 365, o403 P) :: (nat_lit 366, o404 P) :: (nat_lit 367, o405 P) :: (nat_lit 368, o406 P) :: (nat_lit 369, o407 P) :: (nat_lit 372, o413 P) :: (nat_lit 379, o420 P) :: (nat_lit 380, o421 P) :: (nat_lit 382, o423 P) :: (nat_lit 383, o424 P) :: (nat_lit 385, o426 P) :: (nat_lit 386, o427 P) :: (nat_lit 387, o428 P) :: (nat_lit 389, o430 P) :: (nat_lit 390, o431 P) :: (nat_lit 392, o433 P) :: (nat_lit 393, o434 P) :: (nat_lit 394, o435 P) :: (nat_lit 396, o437 P) :: (nat_lit 397, o438 P) :: (nat_lit 399, o440 P) :: (nat_lit 400, o441 P) :: (nat_lit 401, o442 P) :: (nat_lit 403, o444 P) :: (nat_lit 404, o445 P) :: (nat_lit 406, o447 P) :: (nat_lit 407, o448 P) :: (nat_lit 408, o449 P) :: (nat_lit 410, o451 P) :: (nat_lit 411, o452 P) :: (nat_lit 413, o454 P) :: (nat_lit 414, o455 P) :: (nat_lit 415, o456 P) :: (nat_lit 417, o458 P) :: (nat_lit 418, o459 P) :: (nat_lit 420, o461 P) :: (nat_lit 421, o462 P) :: (nat_lit 422, o463 P) :: (nat_lit 423, o464 P) :: (nat_lit 425, o466 P) :: (nat_lit 426, o467 P) :: (nat_lit 428, o469 P) :: (nat_lit 429, o470 P) :: (nat_lit 430, o471 P) :: (nat_lit 431, o472 P) :: (nat_lit 433, o474 P) :: (nat_lit 434, o475 P) :: (nat_lit 436, o477 P) :: (nat_lit 437, o478 P) :: (nat_lit 438, o479 P) :: (nat_lit 439, o480 P) :: (nat_lit 441, o482 P) :: (nat_lit 442, o483 P) :: (nat_lit 444, o485 P) :: (nat_lit 445, o486 P) :: (nat_lit 446, o487 P) :: (nat_lit 447, o488 P) :: (nat_lit 449, o490 P) :: (nat_lit 450, o491 P) :: (nat_lit 452, o493 P) :: (nat_lit 453, o494 P) :: (nat_lit 454, o495 P) :: (nat_lit 455, o496 P) :: (nat_lit 457, o498 P) :: (nat_lit 458, o499 P) :: (nat_lit 460, o501 P) :: (nat_lit 461, o502 P) :: (nat_lit 462, o503 P) :: (nat_lit 464, o505 P) :: (nat_lit 465, o506 P) :: (nat_lit 467, o508 P) :: (nat_lit 468, o509 P) :: (nat_lit 469, o510 P) :: (nat_lit 471, o512 P) :: (nat_lit 472, o513 P) :: (nat_lit 474, o515 P) :: (nat_lit 475, o516 P) :: (nat_lit 476, o517 P) :: (nat_lit 478, o519 P) :: (nat_lit 479, o520 P) :: (nat_lit 481, o522 P) :: (nat_lit 482, o523 P) :: (nat_lit 483, o524 P) :: (nat_lit 485, o526 P) :: (nat_lit 486, o527 P) :: (nat_lit 488, o529 P) :: (nat_lit 489, o530 P) :: (nat_lit 490, o531 P) :: (nat_lit 492, o533 P) :: (nat_lit 493, o534 P) :: (nat_lit 495, o536 P) :: (nat_lit 496, o537 P) :: (nat_lit 497, o538 P) :: (nat_lit 499, o540 P) :: (nat_lit 500, o541 P) :: (nat_lit 502, o543 P) :: (nat_lit 503, o544 P) :: (nat_lit 504, o545 P) :: (nat_lit 506, o547 P) :: (nat_lit 507, o548 P) :: (nat_lit 509, o550 P) :: (nat_lit 510, o551 P) :: (nat_lit 511, o552 P) :: (nat_lit 513, o554 P) :: (nat_lit 514, o555 P) :: (nat_lit 516, o557 P) :: (nat_lit 517, o558 P) :: (nat_lit 518, o559 P) :: (nat_lit 520, o561 P) :: (nat_lit 521, o562 P) :: (nat_lit 523, o564 P) :: (nat_lit 524, o565 P) :: (nat_lit 525, o566 P) :: (nat_lit 527, o568 P) :: (nat_lit 528, o569 P) :: (nat_lit 530, o571 P) :: (nat_lit 531, o572 P) :: (nat_lit 532, o573 P) :: (nat_lit 534, o575 P) :: (nat_lit 535, o576 P) :: (nat_lit 537, o578 P) :: (nat_lit 538, o579 P) :: (nat_lit 539, o580 P) :: (nat_lit 540, o581 P) :: (nat_lit 542, o583 P) :: (nat_lit 543, o584 P) :: (nat_lit 545, o586 P) :: (nat_lit 546, o587 P) :: (nat_lit 547, o588 P) :: (nat_lit 548, o589 P) :: (nat_lit 550, o591 P) :: (nat_lit 551, o592 P) :: (nat_lit 553, o594 P) :: (nat_lit 554, o595 P) :: (nat_lit 555, o596 P) :: (nat_lit 556, o597 P) :: (nat_lit 558, o599 P) :: (nat_lit 559, o600 P) :: (nat_lit 561, o602 P) :: (nat_lit 562, o603 P) :: (nat_lit 563, o604 P) :: (nat_lit 564, o605 P) :: (nat_lit 566, o607 P) :: (nat_lit 567, o608 P) :: (nat_lit 569, o610 P) :: (nat_lit 570, o611 P) :: (nat_lit 571, o612 P) :: (nat_lit 572, o613 P) :: (nat_lit 574, o615 P) :: (nat_lit 575, o616 P) :: (nat_lit 577, o618 P) :: (nat_lit 578, o619 P) :: (nat_lit 579, o620 P) :: (nat_lit 581, o622 P) :: (nat_lit 582, o623 P) :: (nat_lit 584, o625 P) :: (nat_lit 585, o626 P) :: (nat_lit 586, o627 P) :: (nat_lit 588, o629 P) :: (nat_lit 589, o630 P) :: (nat_lit 591, o632 P) :: (nat_lit 592, o633 P) :: (nat_lit 593, o634 P) :: (nat_lit 595, o636 P) :: (nat_lit 596, o637 P) :: (nat_lit 598, o639 P) :: (nat_lit 599, o640 P) :: (nat_lit 600, o641 P) :: (nat_lit 602, o643 P) :: (nat_lit 603, o644 P) :: (nat_lit 605, o646 P) :: (nat_lit 606, o647 P) :: (nat_lit 607, o648 P) :: (nat_lit 609, o650 P) :: (nat_lit 610, o651 P) :: (nat_lit 612, o653 P) :: (nat_lit 613, o654 P) :: (nat_lit 614, o655 P) :: (nat_lit 615, o656 P) :: (nat_lit 616, o657 P) :: (nat_lit 619, o662 P) :: (nat_lit 621, o664 P) :: (nat_lit 622, o665 P) :: (nat_lit 624, o667 P) :: (nat_lit 625, o668 P) :: (nat_lit 626, o669 P) :: (nat_lit 628, o671 P) :: (nat_lit 629, o672 P) :: (nat_lit 631, o674 P) :: (nat_lit 632, o675 P) :: (nat_lit 633, o676 P) :: (nat_lit 635, o678 P) :: (nat_lit 636, o679 P) :: (nat_lit 638, o681 P) :: (nat_lit 639, o682 P) :: (nat_lit 640, o683 P) :: (nat_lit 642, o685 P) :: (nat_lit 643, o686 P) :: (nat_lit 645, o688 P) :: (nat_lit 646, o689 P) :: (nat_lit 647, o690 P) :: (nat_lit 649, o692 P) :: (nat_lit 650, o693 P) :: (nat_lit 652, o695 P) :: (nat_lit 653, o696 P) :: (nat_lit 654, o697 P) :: (nat_lit 656, o699 P) :: (nat_lit 657, o700 P) :: (nat_lit 659, o702 P) :: (nat_lit 660, o703 P) :: (nat_lit 668, o711 P) :: (nat_lit 669, o712 P) :: (nat_lit 671, o714 P) :: (nat_lit 672, o715 P) :: (nat_lit 674, o717 P) :: (nat_lit 675, o718 P) :: (nat_lit 676, o719 P) :: (nat_lit 678, o721 P) :: (nat_lit 679, o722 P) :: (nat_lit 681, o724 P) :: (nat_lit 682, o725 P) :: (nat_lit 683, o726 P) :: (nat_lit 684, o727 P) :: (nat_lit 686, o729 P) :: (nat_lit 687, o730 P) :: (nat_lit 689, o732 P) :: (nat_lit 690, o733 P) :: (nat_lit 691, o734 P) :: (nat_lit 692, o735 P) :: (nat_lit 694, o737 P) :: (nat_lit 695, o738 P) :: (nat_lit 697, o740 P) :: (nat_lit 698, o741 P) :: (nat_lit 699, o742 P) :: (nat_lit 701, o744 P) :: (nat_lit 702, o745 P) :: (nat_lit 704, o747 P) :: (nat_lit 705, o748 P) :: (nat_lit 706, o749 P) :: (nat_lit 708, o751 P) :: (nat_lit 709, o752 P) :: (nat_lit 711, o754 P) :: (nat_lit 712, o755 P) :: (nat_lit 713, o756 P) :: (nat_lit 715, o758 P) :: (nat_lit 716, o759 P) :: (nat_lit 718, o761 P) :: (nat_lit 719, o762 P) :: (nat_lit 720, o763 P) :: (nat_lit 722, o765 P) :: (nat_lit 723, o766 P) :: (nat_lit 725, o768 P) :: (nat_lit 726, o769 P) :: (nat_lit 727, o770 P) :: (nat_lit 728, o771 P) :: (nat_lit 730, o773 P) :: (nat_lit 731, o774 P) :: (nat_lit 733, o776 P) :: (nat_lit 734, o777 P) :: (nat_lit 735, o778 P) :: (nat_lit 737, o780 P) :: (nat_lit 738, o781 P) :: (nat_lit 740, o783 P) :: (nat_lit 741, o784 P) :: (nat_lit 742, o785 P) :: (nat_lit 744, o787 P) :: (nat_lit 745, o788 P) :: (nat_lit 747, o790 P) :: (nat_lit 748, o791 P) :: (nat_lit 749, o792 P) :: (nat_lit 750, o793 P) :: (nat_lit 751, o794 P) :: (nat_lit 752, o795 P) :: (nat_lit 753, o796 P) :: (nat_lit 756, o799 P) :: (nat_lit 757, o800 P) :: (nat_lit 759, o802 P) :: (nat_lit 760, o803 P) :: (nat_lit 762, o805 P) :: (nat_lit 763, o806 P) :: (nat_lit 764, o807 P) :: (nat_lit 766, o809 P) :: (nat_lit 767, o810 P) :: (nat_lit 769, o812 P) :: (nat_lit 770, o813 P) :: (nat_lit 771, o814 P) :: (nat_lit 772, o815 P) :: (nat_lit 774, o817 P) :: (nat_lit 775, o818 P) :: (nat_lit 777, o820 P) :: (nat_lit 778, o821 P) :: (nat_lit 779, o822 P) :: (nat_lit 781, o824 P) :: (nat_lit 782, o825 P) :: (nat_lit 784, o827 P) :: (nat_lit 785, o828 P) :: (nat_lit 786, o829 P) :: (nat_lit 789, o832 P) :: (nat_lit 790, o833 P) :: (nat_lit 791, o834 P) :: (nat_lit 793, o836 P) :: (nat_lit 794, o837 P) :: (nat_lit 796, o839 P) :: (nat_lit 797, o840 P) :: []
noncomputable abbrev keepI : List Nat := [0, 1, 2, 4, 5, 7, 8, 10, 11, 12, 13, 14, 15, 16, 17, 19, 20, 21, 22, 24, 25, 27, 29, 30, 31, 32, 34, 35, 36]
noncomputable abbrev looseL : List Str := [Str.ofString "_special_chars_map", Str.ofString "_twin_re_1", Str.ofString "UnsupportedOperation", Str.ofString "IOBase", Str.ofString "BufferedIOBase", Str.ofString "TextIOBase", Str.ofString "BytesIO", Str.ofString "StringIO", Str.ofString "join_path", Str.ofString "shlex", Str.ofString "split", Str.ofString "join_shlex", Str.ofString "_find_unsafe"]
end
end Mine.Ho
-- part HeadP
set_option maxHeartbeats 0
namespace Mine.Ho
open PySem PySem.W PySem.Calls PyProof.Rows
abbrev pw : Program := PySem.Challenge.pw_ny0303_01
theorem p_pre (w : World) : (fun os => topGo treeTable pw w m0 ann preN (st_e w os) (topStub pw)) = (fun os => some (st_a w os, (⟨denote treeTable cE, cE, pos_a, [topFrame fp]⟩ : Thread))) := by
  rw [PySem.W.Fast.te15667345088766844465, PySem.W.Fast.te14364793385576792824, PySem.W.Fast.te11892475500146522536]; kernel_rfl
theorem p_block (w : World) : (fun os => segRun treeTable pw w m0 ann 1 (blockN + 1) (st_a w os) (blockOf bE env cE pos_a [topFrame fp])) = (fun os => some (Flow.next, st_b w os, cE, pos_b)) := by
  rw [PySem.W.Fast.te14374325043358763698, PySem.W.Fast.te14364793385576792824]; kernel_rfl
theorem p_g1 (w : World) : (fun os => segRunT treeTable pw w m0 ann 1 (n_g1 + 1) (stT_g0 w os) (piecesOf sts_g1 env cE pos_g0 [topFrame fp])) = (fun os => some (Flow.next, stT_g1 w os, cE, pos_g1)) := by
  rw [PySem.W.Fast.te10110043849684766642, PySem.W.Fast.te14364793385576792824]; kernel_rfl
theorem p_g2 (w : World) : (fun os => segRunT treeTable pw w m0 ann 1 (n_g2 + 1) (stT_g1 w os) (piecesOf sts_g2 env cE pos_g1 [topFrame fp])) = (fun os => some (Flow.next, stT_g2 w os, cE, pos_g2)) := by
  rw [PySem.W.Fast.te10110043849684766642, PySem.W.Fast.te14364793385576792824]; kernel_rfl
theorem p_g3 (w : World) : (fun os => segRunT treeTable pw w m0 ann 1 (n_g3 + 1) (stT_g2 w os) (piecesOf sts_g3 env cE pos_g2 [topFrame fp])) = (fun os => some (Flow.next, stT_g3 w os, cE, pos_g3)) := by
  rw [PySem.W.Fast.te10110043849684766642, PySem.W.Fast.te14364793385576792824]; kernel_rfl
theorem p_g4 (w : World) : (fun os => segRunT treeTable pw w m0 ann 1 (n_g4 + 1) (stT_g3 w os) (piecesOf sts_g4 env cE pos_g3 [topFrame fp])) = (fun os => some (Flow.next, stT_g4 w os, cE, pos_g4)) := by
  rw [PySem.W.Fast.te10110043849684766642, PySem.W.Fast.te14364793385576792824]; kernel_rfl
theorem p_fin (w : World) : (fun os => topRun treeTable pw w m0 ann (finN + 1) (st_g4 w os) (⟨doneF Flow.next, cE, pos_g4, [topFrame fp]⟩ : Thread)) = (fun os => some (st_f w os)) := by
  rw [PySem.W.Fast.te14082659384304107361, PySem.W.Fast.te14364793385576792824]; kernel_rfl
theorem p_size (w : World) : ((heap_e w.params).isNs mainGlobals && gens_e.size == 0, (heap_e w.params).objs.size, (heap_e w.params).nsMap mainGlobals (Str.ofString "__annotations__")) = (true, m0, ann) := by
  rw [PySem.W.Fast.te8920871248978507458]; kernel_rfl
end Mine.Ho
-- part HeadQ
set_option maxHeartbeats 0
namespace Mine.Ho
open PySem PySem.W PySem.Calls PyProof.Rows
noncomputable abbrev stT_z (os : OsState) : SharedT := ⟨BT.nil, 0, {}, #[], {}, 1, os⟩
theorem q_tree (w : World) : (fun os => Option.map (fun r => r.1.tree) (impGoT treeTable (opening PySem.Challenge.pw_ny0303_01) w impN (stT_z os) (start (opening PySem.Challenge.pw_ny0303_01)).snd)) = (fun os => some (tree_ee w.params)) := by
  rw [PySem.W.Fast.te14789777615569096658, PySem.W.Fast.te14364793385576792824, PySem.W.Fast.te1435165496053646825]; kernel_rfl
theorem q_rest (w : World) : (fun os => Option.map (fun r => (r.1.n, r.1.life, r.1.gens, r.1.drawn, r.1.toks, r.1.os)) (impGoT treeTable (opening PySem.Challenge.pw_ny0303_01) w impN (stT_z os) (start (opening PySem.Challenge.pw_ny0303_01)).snd)) = (fun os => some (34, life_ee, gens_ee, drawn_ee, toks_ee, os)) := by
  rw [PySem.W.Fast.te14789777615569096658, PySem.W.Fast.te14364793385576792824, PySem.W.Fast.te1435165496053646825]; kernel_rfl
theorem q_end (w : World) : (fun os => (impGoT treeTable (opening PySem.Challenge.pw_ny0303_01) w impN (stT_z os) (start (opening PySem.Challenge.pw_ny0303_01)).snd).bind fun r => importEnds treeTable (opening PySem.Challenge.pw_ny0303_01) w 1 (stT_ee w os).abs r.2) = (fun os => some (stT_ee w os).abs) := by
  rw [PySem.W.Fast.te14789777615569096658, PySem.W.Fast.te14364793385576792824, PySem.W.Fast.te1435165496053646825, PySem.W.Fast.te10274390034422433532]; kernel_rfl
theorem p_fence (w : World) : (fun os => Option.map (fun s : Shared => (s.heap, s.gens, s.drawn, s.toks)) (fenceModules? PySem.Challenge.pw_ny0303_01 (st_ee w os))) = (fun _ => some (heap_e w.params, gens_e, drawn_e, toks_e)) := by
  rw [PySem.W.Fast.te14289696077712309145]; kernel_rfl
theorem open_glue {tb : String → Option Builtin} {p : Program} {w : World} {n : Nat} {t : Thread} {s0 : SharedT} {T : BT} {m k : Nat} {l : Life} {g : Array GenState} {d : Drawn} {os : OsState} {r : Shared}
    (h1 : Option.map (fun r => r.1.tree) (impGoT tb p w n s0 t) = some T) (h3 : Option.map (fun r => (r.1.n, r.1.life, r.1.gens, r.1.drawn, r.1.toks, r.1.os)) (impGoT tb p w n s0 t) = some (m, l, g, d, k, os))
    (h2 : ((impGoT tb p w n s0 t).bind fun r => importEnds tb p w 1 (SharedT.mk T m l g d k os).abs r.2) = some r) : importEnds tb p w (n + 1) s0.abs t = some r := by
  cases q : impGoT tb p w n s0 t with
  | none => rw [q] at h1; cases h1
  | some x =>
    rw [q] at h1 h2 h3
    obtain ⟨⟨a, b, c, d', e, f, g'⟩, t'⟩ := x
    cases h1
    cases h3
    exact imp_go (impGo_of q) h2
theorem z_start (q : Program) : (stT_z (start q).1.os).abs = (start q).1 := rfl
theorem p_open (w : World) : importEnds treeTable (opening PySem.Challenge.pw_ny0303_01) w (impN + 1) (start (opening PySem.Challenge.pw_ny0303_01)).fst (start (opening PySem.Challenge.pw_ny0303_01)).snd = some (st_ee w (start (opening PySem.Challenge.pw_ny0303_01)).fst.os) :=
  (congrArg (fun s => importEnds treeTable (opening PySem.Challenge.pw_ny0303_01) w (impN + 1) s (start (opening PySem.Challenge.pw_ny0303_01)).snd) (z_start (opening PySem.Challenge.pw_ny0303_01))).symm.trans (open_glue (congrFun (q_tree w) (start (opening PySem.Challenge.pw_ny0303_01)).fst.os) (congrFun (q_rest w) (start (opening PySem.Challenge.pw_ny0303_01)).fst.os) (congrFun (q_end w) (start (opening PySem.Challenge.pw_ny0303_01)).fst.os))
theorem p_opened : ∀ w : World, Option.map (fun s : Shared => (s.heap, s.gens, s.drawn, s.toks)) (fencedOpening treeTable PySem.Challenge.pw_ny0303_01 w topN) = some (heap_e w.params, gens_e, drawn_e, toks_e) :=
  open_cut (He := fun P => absHeap (tree_ee P) 34 life_ee) (ge := gens_ee) (de := drawn_ee) (ke := toks_ee) p_open (by decide +kernel) p_fence
end Mine.Ho
-- part HeadR
set_option maxHeartbeats 0
namespace Mine.Ho
open PySem PySem.W PySem.Calls PyProof.Rows
def Pg0 (w : World) : Prop := (fun os => segRunT treeTable PySem.Challenge.pw_ny0303_01 w m0 ann 1 (n_g0 + 1) (stT_b w os) (piecesOf sts_g0 env cE pos_b [topFrame fp])) = (fun os => some (Flow.next, stT_g0 w os, cE, pos_g0))
theorem p_g0 : ∀ w, Pg0 w :=
  byRow2 "comprehension-iter-twice" (P := Pg0)
    (byRow2 "special-get-raises" (P := fun w => Pg0 (w.withFollow "comprehension-iter-twice" false))
      (fun w => by show Pg0 _; unfold Pg0; rw [PySem.W.Fast.te10110043849684766642, PySem.W.Fast.te14364793385576792824]; kernel_rfl)
      (fun w => by show Pg0 _; unfold Pg0; rw [PySem.W.Fast.te10110043849684766642, PySem.W.Fast.te14364793385576792824]; kernel_rfl))
    (byRow2 "special-get-raises" (P := fun w => Pg0 (w.withFollow "comprehension-iter-twice" true))
      (fun w => by show Pg0 _; unfold Pg0; rw [PySem.W.Fast.te10110043849684766642, PySem.W.Fast.te14364793385576792824]; kernel_rfl)
      (fun w => by show Pg0 _; unfold Pg0; rw [PySem.W.Fast.te10110043849684766642, PySem.W.Fast.te14364793385576792824]; kernel_rfl))
end Mine.Ho
-- part HeadL
set_option maxHeartbeats 0
namespace Mine.Ho
open PySem PySem.W PySem.Calls PyProof.Rows
noncomputable def pick (l : List Stmt) : List Nat → List Stmt
  | [] => []
  | i :: r => match l[i]? with
    | some s => s :: pick l r
    | none => pick l r
noncomputable def view : Program := { PySem.Challenge.pw_ny0303_01 with main := { PySem.Challenge.pw_ny0303_01.main with body := pick PySem.Challenge.pw_ny0303_01.main.body keepI } }
theorem l_tabs (w : World) : (fun os => tabsOk view (st_f w os)) = (fun _ : OsState => true) := by rw [PySem.W.Fast.te479339242167458305]; kernel_rfl
theorem l_blt (w : World) : (fun os => (st_f w os).heap.bltView) = (fun _ : OsState => bltViewBooted) := by kernel_rfl
theorem l_pin (w : World) : (fun os => pinSeenD view (drecsOf view) (st_f w os)) = (fun _ : OsState => pinGoodD (drecsOf view)) := by rw [PySem.W.Fast.te16090120013241838585, PySem.W.Fast.te3247288618530077131]; kernel_rfl
theorem l_wide (w : World) : (fun os => wideSeen view (st_f w os)) = (fun _ : OsState => wideGood view) := by rw [PySem.W.Fast.te7317090234206586261]; kernel_rfl
theorem l_seen (w : World) : (fun os => seen ((recsOf view).map (·.name)) (ownsOf view) [] { st_f w os with gens := #[] }) = (fun _ : OsState => expectedOf view) := by
  rw [PySem.W.Fast.te5160383126252970620, PySem.W.Fast.te3399658132070893891, PySem.W.Fast.te5991557255702980513]; kernel_rfl
theorem l_plainE (w : World) : (fun os => plainSeenE view (looseW view looseL) (st_f w os)) = (fun _ : OsState => plainGoodE view (looseW view looseL)) := by rw [PySem.W.Fast.te2386780881361962483, PySem.W.Fast.te821141287760084731]; kernel_rfl
theorem l_plainD (w : World) : (fun os => plainSeenD view looseL (st_f w os)) = (fun _ : OsState => plainGoodD view looseL) := by rw [PySem.W.Fast.te11698064438423848299]; kernel_rfl
theorem l_cls (w : World) : (fun os => clsSeenW view looseL (st_f w os)) = (fun _ : OsState => clsGoodW view looseL) := by rw [PySem.W.Fast.te7369524293546568484]; kernel_rfl
theorem l_stat (w : World) : (fun os => staticsOk (importedModules PySem.Challenge.pw_ny0303_01.main.body) (heap_e w.params) (heap_f w.params) && namesBound PySem.Challenge.pw_ny0303_01 (heap_f w.params) && gensDone (st_f w os) && laidKept (heap_e w.params) (heap_f w.params)) = (fun _ : OsState => true) := by
  rw [PySem.W.Fast.te5923862056798008813]; kernel_rfl
noncomputable abbrev hook : Hook := kHook frag fragA (fun _ => by kernel_rfl)
noncomputable def gath (l : List Obj) : Nat → List Nat → List (Option Obj) := @List.rec Obj (fun _ => Nat → List Nat → List (Option Obj)) (fun _ as => as.map fun _ => none)
  (fun x _ ih i as => @List.rec Nat (fun _ => List (Option Obj)) [] (fun a r _ => @Bool.rec (fun _ => List (Option Obj)) (ih (Nat.succ i) (a :: r)) (some x :: ih (Nat.succ i) r) (Nat.beq a i)) as) l
noncomputable def asc (as : List Nat) : Nat → Bool := @List.rec Nat (fun _ => Nat → Bool) (fun _ => true) (fun a _ ih i => @Bool.rec (fun _ => Bool) false (ih (Nat.succ a)) (Nat.ble i a)) as
theorem gath_nil (i : Nat) (as : List Nat) : gath [] i as = as.map fun _ => none := rfl
theorem gath_no (l : List Obj) (i : Nat) : gath l i [] = [] := by cases l <;> rfl
theorem gath_cons (x : Obj) (l : List Obj) (i a : Nat) (r : List Nat) : gath (x :: l) i (a :: r) = @Bool.rec (fun _ => List (Option Obj)) (gath l (i + 1) (a :: r)) (some x :: gath l (i + 1) r) (Nat.beq a i) := rfl
theorem asc_cons (a i : Nat) (r : List Nat) : asc (a :: r) i = @Bool.rec (fun _ => Bool) false (asc r (a + 1)) (Nat.ble i a) := rfl
theorem asc_le {a i : Nat} {r : List Nat} (h : asc (a :: r) i = true) : i ≤ a ∧ asc r (a + 1) = true := by
  rw [asc_cons] at h
  cases e : Nat.ble i a with
  | false => rw [e] at h; cases h
  | true => rw [e] at h; exact ⟨Nat.le_of_ble_eq_true e, h⟩
theorem asc_mono {i j : Nat} (ij : j ≤ i) : ∀ {as : List Nat}, asc as i = true → asc as j = true
  | [], _ => rfl
  | a :: r, h => by
    have q := asc_le h
    rw [asc_cons, Nat.ble_eq_true_of_le (Nat.le_trans ij q.1)]
    exact q.2
theorem gath_eq : ∀ (l : List Obj) (i : Nat) (as : List Nat), asc as i = true → gath l i as = as.map fun a => l[a - i]?
  | [], i, as, _ => by rw [gath_nil]; rfl
  | x :: l, i, [], _ => rfl
  | x :: l, i, a :: r, h => by
    have q := asc_le h
    rw [gath_cons]
    cases e : Nat.beq a i with
    | true =>
      have e' : a = i := Nat.eq_of_beq_eq_true e
      subst e'
      rw [gath_eq l (a + 1) r q.2, List.map_cons, Nat.sub_self]
      refine congrArg (_ :: ·) (List.map_congr_left fun b hb => ?_)
      have hb' : a + 1 ≤ b := asc_mem q.2 hb
      rw [show b - a = (b - (a + 1)) + 1 by omega]; rfl
    | false =>
      have ne : a ≠ i := Nat.ne_of_beq_eq_false e
      have h' : asc (a :: r) (i + 1) = true := by
        rw [asc_cons, Nat.ble_eq_true_of_le (by omega : i + 1 ≤ a)]; exact q.2
      show gath l (i + 1) (a :: r) = _
      rw [gath_eq l (i + 1) (a :: r) h']
      refine List.map_congr_left fun b hb => ?_
      have hb' : i + 1 ≤ b := asc_mem h' hb
      rw [show b - i = (b - (i + 1)) + 1 by omega]; rfl
where asc_mem : ∀ {as : List Nat} {i b : Nat}, asc as i = true → b ∈ as → i ≤ b
  | a :: r, i, b, h, hb => by
    have q := asc_le h
    rcases List.mem_cons.mp hb with rfl | hb
    · exact q.1
    · exact Nat.le_trans (by omega : i ≤ a + 1) (asc_mem q.2 hb)
def live (o : Option Obj) : Option Obj := match o with
  | some ⟨_, _, .freed, _⟩ => none
  | o => o
theorem get_gath (l : List Obj) (life : Life) (as : List Nat) (h : asc as 0 = true) : as.map (Heap.get? ⟨⟨l⟩, life⟩) = (gath l 0 as).map live := by
  rw [gath_eq l 0 as h, List.map_map]
  refine List.map_congr_left fun a _ => ?_
  show live (⟨l⟩ : Array Obj)[a]? = live l[a - 0]?
  rw [Nat.sub_zero, List.getElem?_toArray]
theorem h_asc : asc fragA 0 = true := by kernel_rfl
theorem h_gath (P : Params) : (gath (heap_f P).objs.toList 0 fragA).map live = (frag P).map fun p => some p.2 := by kernel_rfl
theorem l_hook (w : World) : (fun os => hook.obs (st_f w os)) = (fun _ : OsState => hook.val w) :=
  funext fun _ => (get_gath (heap_f w.params).objs.toList life_f fragA h_asc).trans (h_gath w.params)
end Mine.Ho
-- part HeadM
set_option maxHeartbeats 0
namespace Mine.Ho
open PySem PySem.W PySem.Calls PyProof.Rows
noncomputable abbrev rowW : RowW := PySem.Challenge.rw_ny0303_01.row.toRowW
noncomputable abbrev Xt (s : Shared) : Bool := xlAt view [] s && recOk (RowW.records rowW) s
theorem l_keys (w : World) : (fun os => (st_f w os).heap.keysOk (looseW view looseL) ((recsOf view).map (·.name)) ((litsOf view).map (·.1)) ((clssOf view (looseW view looseL)).map (·.name)) && (st_f w os).heap.accountedOkI (importedModules PySem.Challenge.pw_ny0303_01.main.body) && (st_f w os).heap.isNs mainGlobals && (st_f w os).heap.isNs builtinsNs && tablesOk view (st_f w os).heap && Xt (st_f w os) && (st_f w os).gens.size == 0) = (fun _ : OsState => true) := by
  rw [PySem.W.Fast.te10880121769531294198, PySem.W.Fast.te821141287760084731, PySem.W.Fast.te3399658132070893891, PySem.W.Fast.te5923862056798008813]; kernel_rfl
theorem s_sre : sreFenced PySem.Challenge.rw_ny0303_01.row.prog.main = true := by rw [PySem.W.Fast.te11788848310118352699]; kernel_rfl
theorem s_look : ((moduleNames PySem.Challenge.rw_ny0303_01.row.prog.main.body).isEmpty || lookedIntoSs (moduleNames PySem.Challenge.rw_ny0303_01.row.prog.main.body) PySem.Challenge.rw_ny0303_01.row.prog.main.body) = true := by rw [PySem.W.Fast.te12862048085361865435]; kernel_rfl
theorem s_names : namesResolve PySem.Challenge.rw_ny0303_01.row.prog = true := by rw [PySem.W.Fast.te8377067652309620493]; kernel_rfl
theorem s_strict : (!(importedModules PySem.Challenge.rw_ny0303_01.row.prog.main.body).all cThrough.contains) = false := by rw [PySem.W.Fast.te5923862056798008813]; kernel_rfl
theorem s_vars : readsOut PySem.Challenge.rw_ny0303_01.row.prog PySem.Challenge.rw_ny0303_01.row.prog.main.body (Str.ofString "vars") = false := by rw [PySem.W.Fast.te13343964577679436407]; kernel_rfl
theorem s_dir : readsOut PySem.Challenge.rw_ny0303_01.row.prog PySem.Challenge.rw_ny0303_01.row.prog.main.body (Str.ofString "dir") = false := by rw [PySem.W.Fast.te13343964577679436407]; kernel_rfl
theorem s_locals : readsOut PySem.Challenge.rw_ny0303_01.row.prog PySem.Challenge.rw_ny0303_01.row.prog.main.body (Str.ofString "locals") = false := by rw [PySem.W.Fast.te13343964577679436407]; kernel_rfl
theorem filt3 {α : Type} {p : α → Bool} {a b c : α} (h1 : p a = false) (h2 : p b = false) (h3 : p c = false) : [a, b, c].filter p = [] := by simp [h1, h2, h3]
theorem s_bare : (["vars", "dir", "locals"] : List Str).filter (readsOut PySem.Challenge.rw_ny0303_01.row.prog PySem.Challenge.rw_ny0303_01.row.prog.main.body) = [] :=
  filt3 s_vars s_dir s_locals
theorem s_road0 : noRoadLSs { strict := false, foot := none, bare := [] } PySem.Challenge.rw_ny0303_01.row.prog.main.body = true := by rw [PySem.W.Fast.te8326940854005059898]; kernel_rfl
theorem road_of {b : Bool} {l : List Str} {body : List Stmt} (h1 : b = false) (h2 : l = []) (h : noRoadLSs { strict := false, foot := none, bare := [] } body = true) : noRoadLSs { strict := b, foot := none, bare := l } body = true := by
  subst h1; subst h2; exact h
theorem s_road : noRoadLSs { strict := !(importedModules PySem.Challenge.rw_ny0303_01.row.prog.main.body).all cThrough.contains, foot := none, bare := (["vars", "dir", "locals"] : List Str).filter (readsOut PySem.Challenge.rw_ny0303_01.row.prog PySem.Challenge.rw_ny0303_01.row.prog.main.body) } PySem.Challenge.rw_ny0303_01.row.prog.main.body = true :=
  road_of s_strict s_bare s_road0
theorem s_attr : (namesMeet PySem.Challenge.rw_ny0303_01.row.prog PySem.Challenge.rw_ny0303_01.row.prog.main.body fun _ n => attrL n) = true := by rw [PySem.W.Fast.te17119622794617984870]; kernel_rfl
theorem s_open : looksOpen PySem.Challenge.rw_ny0303_01.row.prog = true := by
  unfold looksOpen
  exact look_both (look_both (look_both (look_both (look_both s_sre s_look) s_names) (by kernel_rfl)) s_road) s_attr
theorem s_part : OpenRow.partSaid PySem.Challenge.rw_ny0303_01.row = true := by
  unfold OpenRow.partSaid
  refine look_both (look_both (look_both (look_both (look_both (look_both (look_both (look_both (look_both (look_both (look_both (look_both (look_both s_open ?_) ?_) ?_) ?_) ?_) ?_) ?_) ?_) ?_) ?_) ?_) ?_) ?_
  all_goals kernel_rfl
theorem s_above : (namesMeet PySem.Challenge.rw_ny0303_01.prog PySem.Challenge.rw_ny0303_01.above fun _ n => !PySem.Challenge.rw_ny0303_01.own.contains n) = true := by rw [PySem.W.Fast.te17119622794617984870]; kernel_rfl
theorem s_row : OpenRow.wellSaid PySem.Challenge.rw_ny0303_01.row = true := by
  unfold OpenRow.wellSaid
  exact look_both (look_both s_part (by kernel_rfl)) (by kernel_rfl)
theorem s_foot : noRoadLSs { strict := true, foot := some PySem.Challenge.rw_ny0303_01.bound', writes := PySem.Challenge.rw_ny0303_01.writes, may := PySem.Challenge.rw_ny0303_01.may } PySem.Challenge.rw_ny0303_01.footing = true := by rw [PySem.W.Fast.te8326940854005059898]; kernel_rfl
theorem said : PySem.Challenge.rw_ny0303_01.wellSaid = true := by
  unfold OpenLaw.wellSaid
  refine look_both (look_both (look_both (look_both (look_both (look_both (look_both (look_both (look_both (look_both (look_both (look_both (look_both (look_both (look_both (look_both (look_both (look_both s_row ?_) ?_) ?_) ?_) ?_) s_foot) ?_) ?_) ?_) ?_) ?_) ?_) ?_) ?_) ?_) ?_) s_above) ?_
  all_goals first | (rw [PySem.W.Fast.te17119622794617984870]; kernel_rfl) | kernel_rfl
theorem d_some : (defOf view rowW.name).isSome = true := by kernel_rfl
noncomputable def dk : DefRec × List (Str × PySem.Expr) := (defOf view rowW.name).get d_some
theorem d_of : defOf view rowW.name = some (dk.1, dk.2) := by kernel_rfl
theorem d_the : rowW.prog.theDef rowW.name = some (dk.1.params, dk.1.body, dk.1.scope) := by kernel_rfl
theorem d_kw : kwWritten? dk.1.params.kwonlyargs dk.1.params.kw_defaults = some dk.2 := by kernel_rfl
theorem c_ok : (chainsOk view && opensWell PySem.Challenge.rw_ny0303_01.row.prog && (frees rowW && PySem.Challenge.rw_ny0303_01.row.within.isEmpty)) = true := by kernel_rfl
end Mine.Ho
-- part HeadC
set_option maxHeartbeats 0
namespace Mine.Ho
open PySem PySem.W PySem.Calls PyProof.Rows
theorem cut_at {α : Type} (l : List α) (a b : Nat) : l.drop a = (l.drop a).take b ++ l.drop (a + b) := by
  rw [← List.drop_drop]; exact (List.take_append_drop b _).symm
theorem cut5 {α : Type} (l : List α) (h : l.drop 35 = []) : l = (l.drop 0).take 10 ++ ((l.drop 10).take 4 ++ ((l.drop 14).take 1 ++ ((l.drop 15).take 2 ++ ((l.drop 17).take 18 ++ [])))) := by
  have e := cut_at l 17 18
  rw [h] at e
  rw [← e, ← cut_at l 15 2, ← cut_at l 14 1, ← cut_at l 10 4, ← cut_at l 0 10]
  rfl
theorem bE_end : bE.drop 35 = [] := by kernel_rfl
theorem bE_cut : bE = sts_g0 ++ (sts_g1 ++ (sts_g2 ++ (sts_g3 ++ (sts_g4 ++ [])))) := cut5 bE bE_end
noncomputable abbrev allN : Nat := preN + ((blockN + 1) + ((n_g0 + 1) + ((n_g1 + 1) + ((n_g2 + 1) + ((n_g3 + 1) + ((n_g4 + 1) + (finN + 1)))))))
theorem r_4 (w : World) (os : OsState) : topRun treeTable pw w m0 ann ((n_g4 + 1) + (finN + 1)) (st_g3 w os) (restOf (sts_g4 ++ []) env cE pos_g3 [topFrame fp]) = some (st_f w os) :=
  piece_app (segRun_of (congrFun (p_g4 w) os)) (piece_nil (congrFun (p_fin w) os))
theorem r_3 (w : World) (os : OsState) : topRun treeTable pw w m0 ann ((n_g3 + 1) + ((n_g4 + 1) + (finN + 1))) (st_g2 w os) (restOf (sts_g3 ++ (sts_g4 ++ [])) env cE pos_g2 [topFrame fp]) = some (st_f w os) :=
  piece_app (segRun_of (congrFun (p_g3 w) os)) (r_4 w os)
theorem r_2 (w : World) (os : OsState) : topRun treeTable pw w m0 ann ((n_g2 + 1) + ((n_g3 + 1) + ((n_g4 + 1) + (finN + 1)))) (st_g1 w os) (restOf (sts_g2 ++ (sts_g3 ++ (sts_g4 ++ []))) env cE pos_g1 [topFrame fp]) = some (st_f w os) :=
  piece_app (segRun_of (congrFun (p_g2 w) os)) (r_3 w os)
theorem r_1 (w : World) (os : OsState) : topRun treeTable pw w m0 ann ((n_g1 + 1) + ((n_g2 + 1) + ((n_g3 + 1) + ((n_g4 + 1) + (finN + 1))))) (st_g0 w os) (restOf (sts_g1 ++ (sts_g2 ++ (sts_g3 ++ (sts_g4 ++ [])))) env cE pos_g0 [topFrame fp]) = some (st_f w os) :=
  piece_app (segRun_of (congrFun (p_g1 w) os)) (r_2 w os)
theorem r_0 (w : World) (os : OsState) : topRun treeTable pw w m0 ann ((n_g0 + 1) + ((n_g1 + 1) + ((n_g2 + 1) + ((n_g3 + 1) + ((n_g4 + 1) + (finN + 1)))))) (st_b w os) (restOf (sts_g0 ++ (sts_g1 ++ (sts_g2 ++ (sts_g3 ++ (sts_g4 ++ []))))) env cE pos_b [topFrame fp]) = some (st_f w os) :=
  piece_app (segRun_of (congrFun (p_g0 w) os)) (r_1 w os)
theorem r_b (w : World) (os : OsState) : topRun treeTable pw w m0 ann ((n_g0 + 1) + ((n_g1 + 1) + ((n_g2 + 1) + ((n_g3 + 1) + ((n_g4 + 1) + (finN + 1)))))) (st_b w os) (restOf bE env cE pos_b [topFrame fp]) = some (st_f w os) :=
  (congrArg (fun l => topRun treeTable pw w m0 ann ((n_g0 + 1) + ((n_g1 + 1) + ((n_g2 + 1) + ((n_g3 + 1) + ((n_g4 + 1) + (finN + 1)))))) (st_b w os) (restOf l env cE pos_b [topFrame fp])) bE_cut).trans (r_0 w os)
theorem p_run (w : World) (os : OsState) : topRun treeTable pw w m0 ann allN (st_e w os) (topStub pw) = some (st_f w os) :=
  go_top (congrFun (p_pre w) os) (piece_block (congrFun (p_block w) os) (r_b w os))
end Mine.Ho
-- part HeadE
set_option maxHeartbeats 0
namespace Mine.Ho
open PySem PySem.W PySem.Calls PyProof.Rows
theorem looks_of {Yf : Shared → List (Option Obj)} {Ya : World → List (Option Obj)} (w : World) (hY : (fun os => Yf (st_f w os)) = fun _ => Ya w) : (fun os => (staticsOk (importedModules PySem.Challenge.pw_ny0303_01.main.body) (heap_e w.params) (heap_f w.params) && namesBound PySem.Challenge.pw_ny0303_01 (heap_f w.params) && gensDone (st_f w os) && laidKept (heap_e w.params) (heap_f w.params), openSeen view looseL (importedModules PySem.Challenge.pw_ny0303_01.main.body) Xt true (st_f w os), Yf (st_f w os))) = fun _ => (true, openGood view looseL, Ya w) := by
  funext os
  refine looks_pair (congrFun (l_stat w) os) (looks_pair ?_ (congrFun hY os))
  exact looks_pair (congrFun (l_seen w) os) (looks_pair (congrFun (l_blt w) os) (looks_pair (congrFun (l_keys w) os) (looks_pair (congrFun (l_tabs w) os) (looks_pair (congrFun (l_pin w) os) (looks_pair (congrFun (l_plainE w) os) (looks_pair (congrFun (l_plainD w) os) (looks_pair (congrFun (l_wide w) os) (congrFun (l_cls w) os))))))))
theorem left : LeftO PySem.Challenge.pw_ny0303_01 view looseL Xt hook.obs hook.val topN :=
  LeftO.of_pieces (g0 := true) (H₀ := heap_e) (H₁ := heap_f) (gs₀ := gens_e) (gs₁ := gens_f) (d₀ := drawn_e) (d₁ := drawn_f) (k₀ := toks_e) (k₁ := toks_f) (m₀ := m0) (ann := ann) (M := allN) p_opened p_size p_run (by decide +kernel) fun w => looks_of w (l_hook w)
theorem frag_hd (h : WalkO view looseL (XL view []) hook.says rowW dk.1 dk.2 fun f vs => PySem.call f vs) : PySem.Challenge.rw_ny0303_01.Holds := by
  refine holds_law said fun said' => ?_
  refine holds_open (q := view) (loose := looseL) (Xt := Xt) (XP := XL view []) (Yf := hook.obs) (Ya := hook.val) (YP := hook.says) (N := topN) left hook.of hook.keeps (fun s e => xl_of s (Bool.and_eq_true_iff.mp e).1) XL.keeps d_of d_the d_kw (fun s e => recFacts_of (Bool.and_eq_true_iff.mp e).2) (by kernel_rfl) said' c_ok ⟨rfl, rfl, rfl, rfl, rfl, by decide +kernel⟩ ?hw h
  case hw => w_witness2
end Mine.Ho
theorem Mine.Ho.filled (w : PySem.World) : (Mine.Ho.frag w.params = Mine.Ho.frag w.params) ∧ PySem.Challenge.rw_ny0303_01 = PySem.Challenge.rw_ny0303_01 := by k_fill; exact ⟨rfl, rfl⟩
-- part Fw
namespace Mine
open PySem PySem.W PySem.Calls PyProof.Rows

abbrev PG : Program := PySem.Challenge.pw_ny0303_01
abbrev Keeps (h h' : Heap) : Prop := ∀ b o, h.get? b = some o → h'.get? b = some o
/-- everything but the addresses in l is kept -/
abbrev KeepsBut (l : List Addr) (h h' : Heap) : Prop := ∀ b o, b ∉ l → h.get? b = some o → h'.get? b = some o

section
variable {prog : Program} {w : World} {A : Around} {s : Shared} {K : Frag} {Q : Value → Shared → Prop} {E : Value → Shared → Prop} {name qual : Str} {params : Arguments} {body : List Stmt} {scope : Scope}
    {dV kV doc pm cdv ct oc : Value} {an od : Option Addr} {osl : Array (Option Value)} {f : Addr} {pos : List Value} {kw : List (Str × Value)} {binds : List (Str × Value)}

theorem call_fn (X : K.In s.heap) (hlim : s.heap.NoLimit)
    (ho : K.lookup f = some ⟨oc, od, .func (fnOf name qual params body scope dV kV doc pm an cdv ct), osl⟩) (hcd : codeIn K cdv qual = true) (hroom : A.depth < recursionLimit)
    (hbind : BindsTo s (fnOf name qual params body scope dV kV doc pm an cdv ct) ⟨pos, kw⟩ binds) (hloc : ∀ y ∈ binds, scope.names.lookup y.1 = some .local)
    (h : ∀ h₁ tk, Fr s.heap s.heap.objs.size h₁ (fun y => binds.reverse.lookup y) → News s.heap s.heap.objs.size h₁ [] →
      wpAny (model prog w) (A.deeper (envOf qual scope s.heap.objs.size f cdv)) (execs body (envOf qual scope s.heap.objs.size f cdv))
        (fun fl s' => Q (match fl with | .ret v => v | _ => .none) s') (fun _ _ => False)
        { s with heap := h₁, toks := tk })
    (hco : scope.isCoroutine = false) (hgen : scope.isGenerator = false) (hk : scope.kind = .function)
    (hcell : ∀ x ∈ scope.names, x.2 ≠ .cell) : wpAny (model prog w) A (call (.ref f) pos kw) Q E s :=
  wpAny_call (codeAny_call_def (fd := fnOf name qual params body scope dV kV doc pm an cdv ct) (body := body) (binds := binds) hroom (X _ _ ho) rfl hlim (codeRec_of X hcd) rfl hbind hcell hloc
    (fun h₁ hns hk₁ => wpAny_mono (h h₁ _ ⟨hns, hk₁, Nat.le_refl _⟩ News.nil) (fun _ _ x => x) fun _ _ x => x.elim) hco hgen hk)

theorem hide_top {h₀ h : Heap} {news : List (Addr × Obj)} (k₀ : Keeps h₀ h) (N₀ : ∀ p ∈ news, h.get? p.1 = some p.2 ∧ h₀.get? p.1 = none) : Keeps h₀ (hideAll h (news.map (·.1))) :=
  fun b o e => hideAll_get _ (k₀ b o e) fun q => by
    obtain ⟨p, hp, rfl⟩ := List.mem_map.mp q
    rw [(N₀ p hp).2] at e; cases e

/-- the same with what the def raises -/
theorem code_fnE {h₀ : Heap} {news : List (Addr × Obj)} {p : Program} {loose : List Str} {mg mb : Str → Option Value} {R : Result → Shared → Prop} (X₀ : K.In h₀) (T₀ : TopRead p loose mg mb h₀) (k₀ : Keeps h₀ s.heap) (N₀ : ∀ p ∈ news, s.heap.get? p.1 = some p.2 ∧ h₀.get? p.1 = none)
    (ho : K.lookup f = some ⟨oc, od, .func (fnOf name qual params body scope dV kV doc pm an cdv ct), osl⟩) (hcd : codeIn K cdv qual = true) (hroom : A.depth < recursionLimit)
    (hbind : BindsTo s (fnOf name qual params body scope dV kV doc pm an cdv ct) ⟨pos, kw⟩ binds) (hloc : ∀ y ∈ binds, scope.names.lookup y.1 = some .local)
    (h : ∀ g L h₁ tk, KeepsBut (news.map (·.1)) s.heap g → K.In g → TopRead p loose mg mb g → Fr g L h₁ (fun y => binds.reverse.lookup y) → News g L h₁ news → (∀ p ∈ news, p.1 < L) → L = s.heap.objs.size →
      wpAny (model prog w) (A.deeper (envOf qual scope L f cdv)) (execs body (envOf qual scope L f cdv))
        (fun fl s' => R (.ok (.ret (match fl with | .ret v => v | _ => .none))) s')
        (fun e s' => wpAny (model prog w) (A.deeper (envOf qual scope L f cdv)) (leaving (envOf qual scope L f cdv) e) (fun _ s'' => R (.error e) s'') (fun e' s'' => R (.error e') s'') s')
        { s with heap := h₁, toks := tk })
    (hco : scope.isCoroutine = false) (hgen : scope.isGenerator = false) (hk : scope.kind = .function)
    (hcell : ∀ x ∈ scope.names, x.2 ≠ .cell) : codeAny (model prog w) A (.call (.ref f) ⟨pos, kw⟩) R s := by
  have X := X₀.keeps k₀
  have kg := hide_top k₀ N₀
  refine codeAny_call_def (fd := fnOf name qual params body scope dV kV doc pm an cdv ct) (body := body) (binds := binds) hroom (X _ _ ho) rfl ((T₀.keeps k₀).nolimit) (codeRec_of X hcd) rfl hbind hcell hloc
    (fun h₁ hns hk₁ => h (hideAll s.heap (news.map (·.1))) _ h₁ _ (fun b o hb e => hideAll_get _ e hb) (X₀.keeps kg) (T₀.keeps kg) ⟨hns, fun b o e => hk₁ b o (of_hideAll _ e), Nat.le_of_eq (hideAll_size _ _)⟩
      (fun p hp => ⟨hk₁ _ _ (N₀ p hp).1, Nat.ne_of_lt (Heap.lt_size (N₀ p hp).1), hideAll_none _ (List.mem_map_of_mem hp)⟩) (fun p hp => Heap.lt_size (N₀ p hp).1) rfl) hco hgen hk
/-- a call whose def may change the objects of news; the rest is its base -/
theorem code_fnH {h₀ : Heap} {news : List (Addr × Obj)} {p : Program} {loose : List Str} {mg mb : Str → Option Value} {R : Result → Shared → Prop} (X₀ : K.In h₀) (T₀ : TopRead p loose mg mb h₀) (k₀ : Keeps h₀ s.heap) (N₀ : ∀ p ∈ news, s.heap.get? p.1 = some p.2 ∧ h₀.get? p.1 = none)
    (ho : K.lookup f = some ⟨oc, od, .func (fnOf name qual params body scope dV kV doc pm an cdv ct), osl⟩) (hcd : codeIn K cdv qual = true) (hroom : A.depth < recursionLimit)
    (hbind : BindsTo s (fnOf name qual params body scope dV kV doc pm an cdv ct) ⟨pos, kw⟩ binds) (hloc : ∀ y ∈ binds, scope.names.lookup y.1 = some .local)
    (h : ∀ g L h₁ tk, KeepsBut (news.map (·.1)) s.heap g → K.In g → TopRead p loose mg mb g → Fr g L h₁ (fun y => binds.reverse.lookup y) → News g L h₁ news → (∀ p ∈ news, p.1 < L) →
      wpAny (model prog w) (A.deeper (envOf qual scope L f cdv)) (execs body (envOf qual scope L f cdv))
        (fun fl s' => R (.ok (.ret (match fl with | .ret v => v | _ => .none))) s') (fun _ _ => False)
        { s with heap := h₁, toks := tk })
    (hco : scope.isCoroutine = false) (hgen : scope.isGenerator = false) (hk : scope.kind = .function)
    (hcell : ∀ x ∈ scope.names, x.2 ≠ .cell) : codeAny (model prog w) A (.call (.ref f) ⟨pos, kw⟩) R s := by
  have X := X₀.keeps k₀
  have kg := hide_top k₀ N₀
  refine codeAny_call_def (fd := fnOf name qual params body scope dV kV doc pm an cdv ct) (body := body) (binds := binds) hroom (X _ _ ho) rfl ((T₀.keeps k₀).nolimit) (codeRec_of X hcd) rfl hbind hcell hloc
    (fun h₁ hns hk₁ => wpAny_mono (h (hideAll s.heap (news.map (·.1))) _ h₁ _ (fun b o hb e => hideAll_get _ e hb) (X₀.keeps kg) (T₀.keeps kg) ⟨hns, fun b o e => hk₁ b o (of_hideAll _ e), Nat.le_of_eq (hideAll_size _ _)⟩
      (fun p hp => ⟨hk₁ _ _ (N₀ p hp).1, Nat.ne_of_lt (Heap.lt_size (N₀ p hp).1), hideAll_none _ (List.mem_map_of_mem hp)⟩) fun p hp => Heap.lt_size (N₀ p hp).1) (fun _ _ x => x) fun _ _ x => x.elim) hco hgen hk
theorem call_fnH {h₀ : Heap} {news : List (Addr × Obj)} {p : Program} {loose : List Str} {mg mb : Str → Option Value} (X₀ : K.In h₀) (T₀ : TopRead p loose mg mb h₀) (k₀ : Keeps h₀ s.heap) (N₀ : ∀ p ∈ news, s.heap.get? p.1 = some p.2 ∧ h₀.get? p.1 = none)
    (ho : K.lookup f = some ⟨oc, od, .func (fnOf name qual params body scope dV kV doc pm an cdv ct), osl⟩) (hcd : codeIn K cdv qual = true) (hroom : A.depth < recursionLimit)
    (hbind : BindsTo s (fnOf name qual params body scope dV kV doc pm an cdv ct) ⟨pos, kw⟩ binds) (hloc : ∀ y ∈ binds, scope.names.lookup y.1 = some .local)
    (h : ∀ g L h₁ tk, KeepsBut (news.map (·.1)) s.heap g → K.In g → TopRead p loose mg mb g → Fr g L h₁ (fun y => binds.reverse.lookup y) → News g L h₁ news → (∀ p ∈ news, p.1 < L) →
      wpAny (model prog w) (A.deeper (envOf qual scope L f cdv)) (execs body (envOf qual scope L f cdv))
        (fun fl s' => Q (match fl with | .ret v => v | _ => .none) s') (fun _ _ => False)
        { s with heap := h₁, toks := tk })
    (hco : scope.isCoroutine = false) (hgen : scope.isGenerator = false) (hk : scope.kind = .function)
    (hcell : ∀ x ∈ scope.names, x.2 ≠ .cell) : wpAny (model prog w) A (call (.ref f) pos kw) Q E s :=
  wpAny_call (code_fnH X₀ T₀ k₀ N₀ ho hcd hroom hbind hloc h hco hgen hk hcell)
end

theorem keepsBut_end {h g h' : Heap} {L : Addr} {m : Str → Option Value} {l : List Addr} (k : KeepsBut l h g) (F : Fr g L h' m) : KeepsBut l h h' := fun b o hb e => F.keep b o (k b o hb e)

theorem frK {h₀ h h' : Heap} {L : Addr} {m : Str → Option Value} (F : Fr h₀ L h m) (k : Keeps h h') : Fr h₀ L h' m :=
  ⟨F.ns.keeps k, fun b o e => k b o (F.keep b o e), F.above⟩
theorem newsK {h₀ h h' : Heap} {L : Addr} {news : List (Addr × Obj)} (N : News h₀ L h news) (k : Keeps h h') : News h₀ L h' news :=
  fun p hp => ⟨k _ _ (N p hp).1, (N p hp).2⟩
/-- a call changed nothing but the addresses of l, and what it changed there is known -/
theorem frBut {h₀ h h' : Heap} {L : Addr} {m : Str → Option Value} {l : List Addr} (F : Fr h₀ L h m) (hL : L ∉ l) (h0 : ∀ a ∈ l, h₀.get? a = none) (k : KeepsBut l h h') : Fr h₀ L h' m :=
  ⟨F.ns.at' fun o e => k L o hL e, fun b o e => k b o (fun q => by rw [h0 b q] at e; cases e) (F.keep b o e), F.above⟩
theorem newsBut {h₀ h h' : Heap} {L : Addr} {news news' : List (Addr × Obj)} {l : List Addr} (N : News h₀ L h news) (k : KeepsBut l h h') (he : ∀ p ∈ news', (p ∈ news ∧ p.1 ∉ l) ∨ (h'.get? p.1 = some p.2 ∧ ∃ o, (p.1, o) ∈ news)) : News h₀ L h' news' :=
  fun p hp => (he p hp).elim (fun ⟨q, r⟩ => ⟨k _ _ r (N p q).1, (N p q).2⟩) fun ⟨q, o, r⟩ => ⟨q, (N _ r).2⟩
section
open PySem PySem.Spec PySem.Calls PyProof.Rows PySem.W
variable {M : Model} {A : Around} {E : Value → Shared → Prop} {s : Shared} {K : Frag} {h₀ : Heap} {L a : Addr} {m mg mb : Str → Option Value} {cn : Str} {cs : Scope} {ccd : Value} {p : Program} {loose : List Str}
  {x : Str} {pos : Pos} {v : Value} {Q : Value → Shared → Prop}
theorem nameE_L (F : Fr h₀ L s.heap m) (hv : m x = some v) (h : Q v s) (hk : cs.kind = .function) (hx : (envOf cn cs L a ccd).kindOf x = some .local) (hd : (x == (Str.ofString "__debug__")) = false) :
    wpAny M A (eval (.Name x pos) (envOf cn cs L a ccd)) Q E s := nameX_L F hv h hk hx hd
theorem nameE_K (F : Fr h₀ L s.heap m) (X : K.In h₀) (T : TopRead p loose mg mb h₀) (e : nsIn K mainGlobals x = some (some v)) (h : Q v s) (hk : cs.kind = .function) (hx : (envOf cn cs L a ccd).kindOf x = some .globalImplicit) (hd : (x == (Str.ofString "__debug__")) = false) :
    wpAny M A (eval (.Name x pos) (envOf cn cs L a ccd)) Q E s := nameX_K F X T e h hk hx hd
end
end Mine
local macro_rules | `(tactic| walk_at "exec If") => `(tactic| refine PySem.wpAny_If ?_)
local macro_rules | `(tactic| walk_at "ite") => `(tactic| (k_closed; first | (refine' PySem.W.ite_pos ?c ?_; (case c => k_dflt (decide +kernel))) | (refine' PySem.W.ite_neg ?c ?_; (case c => k_dflt (decide +kernel)))))
local macro_rules | `(tactic| walk_at "getAttr ref") => `(tactic| (k_here; (refine' PySem.W.get_own ?k1 ?k2 ?k3 ?k4 ?k5 ?k6 ?k7 ?k8 ?k9 ?_; (case k1 => k_dflt k_asm); (case k2 => k_dflt k_asm); (case k3 => k_dflt k_inst); (case k4 => k_dflt k_is); (case k5 => k_dflt k_is); (case k6 => k_dflt k_is); (case k7 => k_dflt k_is); (case k8 => k_dflt k_get); (case k9 => k_dflt k_handed); k_whole)))
local macro_rules | `(tactic| walk_at "eval Name") => `(tactic| (k_here; (first
  | (refine' Mine.nameE_L ?F ?v ?_ ?a ?b ?d; (case F => k_dflt k_asm); (case a => k_dflt (exact rfl)); (case b => k_dflt kernel_rfl); (case d => k_dflt kernel_rfl); (case v => k_dflt (exact rfl)); k_whole)
  | (refine' Mine.nameE_K ?F ?X ?T ?e ?_ ?a ?b ?d; (case F => k_dflt k_asm); (case X => k_dflt k_asm); (case T => k_dflt k_asm); (case a => k_dflt (exact rfl)); (case b => k_dflt kernel_rfl); (case d => k_dflt kernel_rfl); (case e => k_dflt k_is); k_whole))))
local macro_rules | `(tactic| walk_at $s:str) => `(tactic| k_extra $s)
-- part Lex0
namespace Mine
open PySem PySem.W PySem.Calls PyProof.Rows

/-- what stays of a lexer: its objects' places, its tokens, its text -/
structure LC where
  x : Addr
  dx : Addr
  y : Addr
  ds : Addr
  pb : Addr
  fs : Addr
  kt : Nat → Tok
  vt : Nat → Tok
  buf : Str
  wc : Str

abbrev sioD (w : World) (C : LC) (pos : Int) (pt : Tok) : Obj :=
  dictOf [⟨PyData.keyHash w.params (Str.ofString "_StringIO__newline"), .str (Str.ofString "_StringIO__newline") (C.kt 20), .str (Str.ofString "\n") (C.vt 20)⟩,
   ⟨PyData.keyHash w.params (Str.ofString "_StringIO__buf"), .str (Str.ofString "_StringIO__buf") (C.kt 21), .str C.buf (C.vt 21)⟩,
   ⟨PyData.keyHash w.params (Str.ofString "_StringIO__pos"), .str (Str.ofString "_StringIO__pos") (C.kt 22), .int pos pt⟩] 3

abbrev lexD (w : World) (C : LC) (st : Value) (ln : Int) (lt : Tok) (tok : Str) (tt : Tok) : Obj :=
  dictOf [⟨PyData.keyHash w.params (Str.ofString "instream"), .str (Str.ofString "instream") (C.kt 0), .ref C.y⟩,
   ⟨PyData.keyHash w.params (Str.ofString "infile"), .str (Str.ofString "infile") (C.kt 1), .none⟩,
   ⟨PyData.keyHash w.params (Str.ofString "posix"), .str (Str.ofString "posix") (C.kt 2), .bool true⟩,
   ⟨PyData.keyHash w.params (Str.ofString "eof"), .str (Str.ofString "eof") (C.kt 3), .none⟩,
   ⟨PyData.keyHash w.params (Str.ofString "commenters"), .str (Str.ofString "commenters") (C.kt 4), .str (Str.ofString "") (C.vt 4)⟩,
   ⟨PyData.keyHash w.params (Str.ofString "wordchars"), .str (Str.ofString "wordchars") (C.kt 5), .str C.wc (C.vt 5)⟩,
   ⟨PyData.keyHash w.params (Str.ofString "whitespace"), .str (Str.ofString "whitespace") (C.kt 6), .str (Str.ofString " \t\r\n") (C.vt 6)⟩,
   ⟨PyData.keyHash w.params (Str.ofString "whitespace_split"), .str (Str.ofString "whitespace_split") (C.kt 7), .bool true⟩,
   ⟨PyData.keyHash w.params (Str.ofString "quotes"), .str (Str.ofString "quotes") (C.kt 8), .str (Str.ofString "'\"") (C.vt 8)⟩,
   ⟨PyData.keyHash w.params (Str.ofString "escape"), .str (Str.ofString "escape") (C.kt 9), .str (Str.ofString "\\") (C.vt 9)⟩,
   ⟨PyData.keyHash w.params (Str.ofString "escapedquotes"), .str (Str.ofString "escapedquotes") (C.kt 10), .str (Str.ofString "\"") (C.vt 10)⟩,
   ⟨PyData.keyHash w.params (Str.ofString "state"), .str (Str.ofString "state") (C.kt 11), st⟩,
   ⟨PyData.keyHash w.params (Str.ofString "pushback"), .str (Str.ofString "pushback") (C.kt 12), .ref C.pb⟩,
   ⟨PyData.keyHash w.params (Str.ofString "lineno"), .str (Str.ofString "lineno") (C.kt 13), .int ln lt⟩,
   ⟨PyData.keyHash w.params (Str.ofString "debug"), .str (Str.ofString "debug") (C.kt 14), .int 0 (C.vt 14)⟩,
   ⟨PyData.keyHash w.params (Str.ofString "token"), .str (Str.ofString "token") (C.kt 15), .str tok tt⟩,
   ⟨PyData.keyHash w.params (Str.ofString "filestack"), .str (Str.ofString "filestack") (C.kt 16), .ref C.fs⟩,
   ⟨PyData.keyHash w.params (Str.ofString "source"), .str (Str.ofString "source") (C.kt 17), .none⟩,
   ⟨PyData.keyHash w.params (Str.ofString "_punctuation_chars"), .str (Str.ofString "_punctuation_chars") (C.kt 18), .str (Str.ofString "") (C.vt 18)⟩] 19

/-- the lexer's four objects -/
abbrev LX (w : World) (C : LC) (st : Value) (ln : Int) (lt : Tok) (tok : Str) (tt : Tok) (pos : Int) (pt : Tok) : List (Addr × Obj) :=
  [(C.dx, lexD w C st ln lt tok tt), (C.ds, sioD w C pos pt), (C.x, instObj 751 C.dx), (C.y, instObj 616 C.ds)]
abbrev LXa (C : LC) : List Addr := [C.dx, C.ds, C.x, C.y]

/-- they lie apart -/
structure LC.Apart (C : LC) : Prop where
  a : @Ne Nat C.dx C.ds
  b : @Ne Nat C.dx C.x
  c : @Ne Nat C.dx C.y
  d : @Ne Nat C.ds C.x
  e : @Ne Nat C.ds C.y
  f : @Ne Nat C.x C.y

theorem n0_of {h₀ h : Heap} {L : Addr} {news : List (Addr × Obj)} (N : News h₀ L h news) : ∀ p ∈ news, h.get? p.1 = some p.2 ∧ h₀.get? p.1 = none := fun p hp => ⟨(N p hp).1, (N p hp).2.2⟩
section
variable {w : World} {C : LC} {st st' : Value} {ln ln' : Int} {lt lt' tt tt' pt pt' : Tok} {tok tok' : Str} {pos pos' : Int} {h₀ h h' g : Heap} {L L' : Addr} {m m' : Str → Option Value}
theorem lx_addrs : (LX w C st ln lt tok tt pos pt).map (·.1) = LXa C := rfl
/-- back from a call that changed the lexer alone -/
theorem lx_back (F : Fr h₀ L h m) (N : News h₀ L h (LX w C st ln lt tok tt pos pt)) (kb : KeepsBut (LXa C) h h') (O : ∀ p ∈ LX w C st' ln' lt' tok' tt' pos' pt', h'.get? p.1 = some p.2) :
    Fr h₀ L h' m ∧ News h₀ L h' (LX w C st' ln' lt' tok' tt' pos' pt') := by
  have a1 := N (C.dx, lexD w C st ln lt tok tt) (by simp)
  have a2 := N (C.ds, sioD w C pos pt) (by simp)
  have a3 := N (C.x, instObj 751 C.dx) (by simp)
  have a4 := N (C.y, instObj 616 C.ds) (by simp)
  refine ⟨frBut F ?_ ?_ kb, fun p hp => ⟨O p hp, ?_⟩⟩
  · intro q
    simp only [LXa, List.mem_cons, List.not_mem_nil, or_false] at q
    rcases q with q | q | q | q
    · exact a1.2.1 q.symm
    · exact a2.2.1 q.symm
    · exact a3.2.1 q.symm
    · exact a4.2.1 q.symm
  · intro b q
    simp only [LXa, List.mem_cons, List.not_mem_nil, or_false] at q
    rcases q with rfl | rfl | rfl | rfl
    · exact a1.2.2
    · exact a2.2.2
    · exact a3.2.2
    · exact a4.2.2
  · simp only [LX, List.mem_cons, List.not_mem_nil, or_false] at hp
    rcases hp with rfl | rfl | rfl | rfl
    · exact a1.2
    · exact a2.2
    · exact a3.2
    · exact a4.2
theorem lx_same {news : List (Addr × Obj)} (F : Fr h₀ L h m) (N : News h₀ L h news) (m1 : (C.dx, lexD w C st ln lt tok tt) ∈ news) (m2 : (C.ds, sioD w C pos pt) ∈ news) (m3 : (C.x, instObj 751 C.dx) ∈ news) (m4 : (C.y, instObj 616 C.ds) ∈ news)
    (kb : KeepsBut (LXa C) h h') (O : ∀ p ∈ LX w C st ln lt tok tt pos pt, h'.get? p.1 = some p.2) : Fr h₀ L h' m ∧ News h₀ L h' news := by
  have N1 : News h₀ L h (LX w C st ln lt tok tt pos pt) := fun p hp => by
    simp only [LX, List.mem_cons, List.not_mem_nil, or_false] at hp
    rcases hp with rfl | rfl | rfl | rfl
    · exact N _ m1
    · exact N _ m2
    · exact N _ m3
    · exact N _ m4
  refine ⟨(lx_back F N1 kb O).1, fun p hp => ⟨?_, (N p hp).2⟩⟩
  by_cases hm : p.1 ∈ LXa C
  · have : ∃ o, (p.1, o) ∈ LX w C st ln lt tok tt pos pt := by
      simp only [LXa, List.mem_cons, List.not_mem_nil, or_false] at hm
      rcases hm with e | e | e | e <;> rw [e]
      · exact ⟨_, .head _⟩
      · exact ⟨_, .tail _ (.head _)⟩
      · exact ⟨_, .tail _ (.tail _ (.head _))⟩
      · exact ⟨_, .tail _ (.tail _ (.tail _ (.head _)))⟩
    obtain ⟨o, ho⟩ := this
    have e1 := (N1 _ ho).1
    have e2 := (N p hp).1
    have e3 : o = p.2 := Option.some.inj (e1.symm.trans e2)
    rw [← e3]
    exact O _ ho
  · exact kb _ _ hm (N p hp).1
end
end Mine
-- part Sio
set_option maxHeartbeats 8000000
namespace Mine
open PySem PySem.W PySem.Calls PyProof.Rows

theorem k_index {w : World} {A : Around} {s : Shared} {p : Program} {loose : List Str} {mg mb : Str → Option Value} {h₀ : Heap} {L : Addr} {m : Str → Option Value} {news : List (Addr × Obj)} {x : Str} {t u : Tok} {Q E : Value → Shared → Prop}
    (F : Fr h₀ L s.heap m) (N : News h₀ L s.heap news) (X₀ : (Mine.Ho.frag w.params).In h₀) (T₀ : TopRead p loose mg mb h₀) (hd : A.depth < 950)
    (h : ∀ h' tk t', Fr h₀ L h' m → News h₀ L h' news → Q (.int 1 t') { s with heap := h', toks := tk }) :
    wpAny (model PG w) A (call (.ref 82) [.int 1 u, .str x t]) Q E s := by
  k_with_none
  k_with "enter" => (k_dflt (case k1 => k_asm); (case k2 => exact TopRead.nolimit (by k_asm)); (case k3 => k_is); (case k4 => k_is); (case k6 => first | exact BindsTo.of_eq rfl | exact binds_K (by assumption) rfl (by k_is) rfl rfl rfl); (case k7 => exact locs rfl); (case c1 => exact rfl); (case c2 => exact rfl); (case c3 => exact rfl); (case c4 => decide))
  k_with "enterH" => (k_dflt (case k1 => k_asm); (case k2 => k_asm); (case k3 => assumption);  (case k4 => k_is); (case k5 => k_is); (case k7 => first | exact BindsTo.of_eq rfl | exact binds_K (by assumption) rfl (by k_is) rfl rfl rfl); (case k8 => exact locs rfl); (case c1 => exact rfl); (case c2 => exact rfl); (case c3 => exact rfl); (case c4 => decide))
  have X := X₀.keeps F.keep
  have T := T₀.keeps F.keep
  refine' call_fn (binds := [(Str.ofString "n", .int 1 u), (Str.ofString "what", .str x t)]) ?k1 ?k2 ?k3 ?k4 ?k5 ?k6 ?k7 ?_ ?c1 ?c2 ?c3 ?c4
  walk_at "enter"
  case k5 => exact Nat.lt_trans hd (by decide)
  replace h : ∀ h' tk t', Keeps s.heap h' → Q (.int 1 t') { s with heap := h', toks := tk } := fun h' tk t' k => h h' tk t' (frK F k) (newsK N k)
  clear F N X₀ T₀
  intro h₁ tk F N
  k_fold
  k_steps
  exact h _ _ _ (Fr.keep (by assumption))

section
variable {w : World} {A : Around} {s : Shared} {p : Program} {loose : List Str} {mg mb : Str → Option Value} {h₀ : Heap} {L : Addr} {m : Str → Option Value} {C : LC} {st : Value} {ln pos : Int} {lt tt pt u : Tok} {tok : Str} {Q E : Value → Shared → Prop}

theorem k_check (F : Fr h₀ L s.heap m) (N : News h₀ L s.heap (LX w C st ln lt tok tt pos pt)) (X₀ : (Mine.Ho.frag w.params).In h₀) (T₀ : TopRead p loose mg mb h₀) (hd : A.depth < 950)
    (h : ∀ h' tk, Fr h₀ L h' m → News h₀ L h' (LX w C st ln lt tok tt pos pt) → Q .none { s with heap := h', toks := tk }) :
    wpAny (model PG w) A (call (.ref 400) [.ref C.y]) Q E s := by
  have k₀ := F.keep
  refine' call_fnH (news := LX w C st ln lt tok tt pos pt) (binds := [(Str.ofString "self", .ref C.y)]) ?k1 ?k2 ?k3 (n0_of N) ?k4 ?k5 ?k6 ?k7 ?k8 ?_ ?c1 ?c2 ?c3 ?c4
  walk_at "enterH"
  case k6 => exact Nat.lt_trans hd (by decide)
  replace h : ∀ h' tk, KeepsBut (LXa C) s.heap h' → (∀ p ∈ LX w C st ln lt tok tt pos pt, h'.get? p.1 = some p.2) → Q .none { s with heap := h', toks := tk } :=
    fun h' tk kb O => let ⟨a, b⟩ := lx_back F N kb O; h h' tk a b
  clear F N X₀ T₀ k₀
  intro g L' h₁ tk kb X T F N lt
  k_fold
  k_steps
  exact h _ _ (keepsBut_end kb (by assumption)) (fun p hp => (‹News g L' _ _› p hp).1)

theorem slice_one {x : Str} {i c : Nat} {j : Int} (hc : x.cps[i]? = some c) (hj : j = (i : Int) + 1) : Txt.slice x (some (i : Int)) (some j) = ⟨#[c]⟩ := by
  k_with "call ref" => ((with_reducible show wpAny _ _ (call (Value.ref 82) _) _ _ _); refine' k_index ?k1 ?k2 ?k3 ?k4 ?k5 ?_; (case k1 => k_asm); (case k2 => k_asm); (case k3 => k_asm); (case k4 => k_asm); (case k5 => show _ + 1 < _; omega); intro h' tk' t' F' N'; (try k_sweep))
  k_with "call ref" => ((with_reducible show wpAny _ _ (call (Value.ref 400) _) _ _ _); refine' k_check ?k1 ?k2 ?k3 ?k4 ?k5 ?_; (case k1 => k_asm); (case k2 => k_asm); (case k3 => k_asm); (case k4 => k_asm); (case k5 => show _ + 1 < _; omega); intro h' tk' F' N'; (try k_sweep))
  have hi : i < x.cps.size := by
    rcases Nat.lt_or_ge i x.cps.size with h | h
    · exact h
    · rw [Array.getElem?_eq_none h] at hc; cases hc
  have h1 := slice_closes (x := x) (i := (i : Int)) (j := j) ⟨by omega, by omega, by simp only [Array.length_toList]; omega⟩
  rw [eq_of_beq h1, hj]
  have e : ((i : Int) + 1 - (i : Int)).toNat = 1 := by omega
  rw [e, Int.toNat_natCast]
  have hl : x.cps.toList[i]? = some c := by simpa using hc
  congr 1
  rw [List.drop_eq_getElem_cons (by simpa using hi)]
  simp at hl ⊢
  exact (Array.getElem?_eq_some_iff.mp hc).2

theorem k_read_some {i c : Nat} (hA : C.Apart) (F : Fr h₀ L s.heap m) (N : News h₀ L s.heap (LX w C st ln lt tok tt (i : Int) pt)) (X₀ : (Mine.Ho.frag w.params).In h₀) (T₀ : TopRead p loose mg mb h₀) (hd : A.depth < 940)
    (hc : C.buf.cps[i]? = some c) (hb : C.buf.length < 1000000)
    (h : ∀ h' tk t' pt', Fr h₀ L h' m → News h₀ L h' (LX w C st ln lt tok tt (i + 1 : Int) pt') → Q (.str ⟨#[c]⟩ t') { s with heap := h', toks := tk }) :
    wpAny (model PG w) A (call (.ref 562) [.ref C.y, .int 1 u]) Q E s := by
  have k₀ := F.keep
  have XS := X₀.keeps k₀
  refine' call_fnH (news := LX w C st ln lt tok tt (i : Int) pt) (binds := [(Str.ofString "self", .ref C.y), (Str.ofString "size", .int 1 u)]) ?k1 ?k2 ?k3 (n0_of N) ?k4 ?k5 ?k6 ?k7 ?k8 ?_ ?c1 ?c2 ?c3 ?c4
  walk_at "enterH"
  case k6 => exact Nat.lt_trans hd (by decide)
  replace h : ∀ h' tk t' pt', KeepsBut (LXa C) s.heap h' → (∀ p ∈ LX w C st ln lt tok tt (i + 1 : Int) pt', h'.get? p.1 = some p.2) → Q (.str ⟨#[c]⟩ t') { s with heap := h', toks := tk } :=
    fun h' tk t' pt' kb O => let ⟨a, b⟩ := lx_back F N kb O; h h' tk t' pt' a b
  obtain ⟨a1, a2, a3, a4, a5, a6⟩ := hA
  have hlt : (i : Int) < (C.buf.length : Int) := by
    rcases Nat.lt_or_ge i C.buf.cps.size with h | h
    · exact Int.ofNat_lt.mpr h
    · rw [Array.getElem?_eq_none h] at hc; cases hc
  clear F N X₀ T₀ k₀ XS
  intro g L' h₁ tk kb X T F N lt
  k_fold
  k_lt lt
  k_steps
  · rw [slice_one hc rfl]
    exact h _ _ _ _ (keepsBut_end kb (by assumption)) (fun p hp => (‹News g L' _ _› p hp).1)
  · have e : (C.buf.length : Int) = (i : Int) + 1 := by omega
    rw [slice_one hc e]
    rename News g L' _ _ => NN
    rw [e] at NN
    exact h _ _ _ _ (keepsBut_end kb (by assumption)) (fun p hp => (NN p hp).1)

theorem k_read_end (hA : C.Apart) (F : Fr h₀ L s.heap m) (N : News h₀ L s.heap (LX w C st ln lt tok tt (C.buf.length : Int) pt)) (X₀ : (Mine.Ho.frag w.params).In h₀) (T₀ : TopRead p loose mg mb h₀) (hd : A.depth < 940)
    (hb : C.buf.length < 1000000)
    (h : ∀ h' tk t', Fr h₀ L h' m → News h₀ L h' (LX w C st ln lt tok tt (C.buf.length : Int) pt) → Q (.str (Str.ofString "") t') { s with heap := h', toks := tk }) :
    wpAny (model PG w) A (call (.ref 562) [.ref C.y, .int 1 u]) Q E s := by
  have k₀ := F.keep
  have XS := X₀.keeps k₀
  refine' call_fnH (news := LX w C st ln lt tok tt (C.buf.length : Int) pt) (binds := [(Str.ofString "self", .ref C.y), (Str.ofString "size", .int 1 u)]) ?k1 ?k2 ?k3 (n0_of N) ?k4 ?k5 ?k6 ?k7 ?k8 ?_ ?c1 ?c2 ?c3 ?c4
  walk_at "enterH"
  case k6 => exact Nat.lt_trans hd (by decide)
  replace h : ∀ h' tk t', KeepsBut (LXa C) s.heap h' → (∀ p ∈ LX w C st ln lt tok tt (C.buf.length : Int) pt, h'.get? p.1 = some p.2) → Q (.str (Str.ofString "") t') { s with heap := h', toks := tk } :=
    fun h' tk t' kb O => let ⟨a, b⟩ := lx_back F N kb O; h h' tk t' a b
  obtain ⟨a1, a2, a3, a4, a5, a6⟩ := hA
  clear F N X₀ T₀ k₀ XS
  intro g L' h₁ tk kb X T F N lt
  k_fold
  k_lt lt
  k_steps
  exact h _ _ _ (keepsBut_end kb (by assumption)) (fun p hp => (‹News g L' _ _› p hp).1)
end
end Mine
-- part Rt0
set_option maxHeartbeats 8000000
namespace Mine
open PySem PySem.W PySem.Calls PyProof.Rows

/-- a def of the top, as it is written there -/
structure FnAt (K : Frag) (f : Addr) where
  name : Str
  qual : Str
  params : Arguments
  body : List Stmt
  scope : Scope
  dV : Value
  kV : Value
  doc : Value
  pm : Value
  cdv : Value
  ct : Value
  oc : Value
  an : Option Addr
  od : Option Addr
  osl : Array (Option Value)
  is : K.lookup f = some ⟨oc, od, .func (fnOf name qual params body scope dV kV doc pm an cdv ct), osl⟩
def mkFn {K : Frag} {f : Addr} {name qual : Str} {params : Arguments} {body : List Stmt} {scope : Scope} {dV kV doc pm cdv ct oc : Value} {an od : Option Addr} {osl : Array (Option Value)}
    (is : K.lookup f = some ⟨oc, od, .func (fnOf name qual params body scope dV kV doc pm an cdv ct), osl⟩) : FnAt K f := ⟨name, qual, params, body, scope, dV, kV, doc, pm, cdv, ct, oc, an, od, osl, is⟩
noncomputable def rtFn (w : World) : FnAt (Mine.Ho.frag w.params) 719 := by
  refine' mkFn ?z
  case z => k_is
noncomputable def rtTurn (w : World) : List Stmt := match (rtFn w).body with
  | _ :: _ :: .While _ b _ _ :: _ => b
  | _ => []
noncomputable abbrev rtEnv (w : World) (L : Addr) : Env := envOf (rtFn w).qual (rtFn w).scope L 719 (rtFn w).cdv
section
variable {w : World} {A : Around} {s : Shared} {p : Program} {loose : List Str} {mg mb : Str → Option Value} {h₀ : Heap} {L : Addr} {m : Str → Option Value} {C : LC} {st : Value} {ln pos : Int} {lt tt pt u : Tok} {tok : Str} 

theorem k_punct {news : List (Addr × Obj)} {expr : Bool} {Q E : Value → Shared → Prop} (F : Fr h₀ L s.heap m) (N : News h₀ L s.heap news) (X₀ : (Mine.Ho.frag w.params).In h₀) (T₀ : TopRead p loose mg mb h₀)
    (m1 : (C.dx, lexD w C st ln lt tok tt) ∈ news) (m2 : (C.ds, sioD w C pos pt) ∈ news) (m3 : (C.x, instObj 751 C.dx) ∈ news) (m4 : (C.y, instObj 616 C.ds) ∈ news) (hd : A.depth < 950)
    (h : ∀ h' tk t', Fr h₀ L h' m → News h₀ L h' news → Q (.str (Str.ofString "") t') { s with heap := h', toks := tk }) :
    wpAny (model PG w) A (getAttr (.ref C.x) (Str.ofString "punctuation_chars") expr) Q E s := by
  k_with_none
  k_with "enterH" => (k_dflt (case k1 => k_asm); (case k2 => k_asm); (case k3 => assumption);  (case k4 => k_is); (case k5 => k_is); (case k7 => first | exact BindsTo.of_eq rfl | exact binds_K (by assumption) rfl (by k_is) rfl rfl rfl); (case k8 => exact locs rfl); (case c1 => exact rfl); (case c2 => exact rfl); (case c3 => exact rfl); (case c4 => decide))
  have N1 : News h₀ L s.heap (LX w C st ln lt tok tt pos pt) := fun p hp => by
    simp only [LX, List.mem_cons, List.not_mem_nil, or_false] at hp
    rcases hp with rfl | rfl | rfl | rfl
    · exact N _ m1
    · exact N _ m2
    · exact N _ m3
    · exact N _ m4
  replace h : ∀ h' tk t', KeepsBut (LXa C) s.heap h' → (∀ p ∈ LX w C st ln lt tok tt pos pt, h'.get? p.1 = some p.2) → Q (.str (Str.ofString "") t') { s with heap := h', toks := tk } :=
    fun h' tk t' kb O => let ⟨a, b⟩ := lx_same F N m1 m2 m3 m4 kb O; h h' tk t' a b
  clear N m1 m2 m3 m4
  k_dflt (refine' get_prop ?k1 ?k2 ?k3 ?k4 ?k5 ?k6 ?k7 ?k8 ?k9 ?_; (case k1 => k_asm); (case k2 => k_asm); (case k3 => k_inst); (case k4 => k_is); (case k5 => k_is); (case k6 => k_is); (case k7 => k_is); (case k8 => k_is); (case k9 => k_is))
  have k₀ := F.keep
  have N₀ := n0_of N1
  refine' code_fnH (news := LX w C st ln lt tok tt pos pt) (binds := [(Str.ofString "self", .ref C.x)]) ?k1 ?k2 ?k3 N₀ ?k4 ?k5 ?k6 ?k7 ?k8 ?_ ?c1 ?c2 ?c3 ?c4
  walk_at "enterH"
  case k6 => exact Nat.lt_trans hd (by decide)
  clear F N1 X₀ T₀ k₀ N₀
  intro g L' h₁ tk kb X T F N lt
  k_fold
  k_steps
  exact handed_on rfl (h _ _ _ (keepsBut_end kb (by assumption)) (fun p hp => (‹News g L' _ _› p hp).1))

theorem frE {h₀ h : Heap} {L : Addr} {m m' : Str → Option Value} (F : Fr h₀ L h m) (e : ∀ y, m y = m' y) : Fr h₀ L h m' := funext e ▸ F
/-- the frame of read_token within its loop -/
abbrev frm (x : Addr) (nv : Option Value) (q : Bool) (es : Str) (et : Tok) : Str → Option Value := fun y =>
  if y = Str.ofString "nextchar" then nv else if y = Str.ofString "quoted" then some (.bool q) else if y = Str.ofString "escapedstate" then some (.str es et) else [(Str.ofString "self", Value.ref x)].reverse.lookup y


theorem ch_eq {c n : Nat} {x : Str} (hx : x = ⟨#[n]⟩) : ((⟨#[c]⟩ : Str) == x) = decide (c = n) := by
  k_with "getAttr ref" => ((with_reducible show wpAny _ _ (getAttr (Value.ref _) (PySem.Str.ofString "punctuation_chars") _) _ _ _); refine' k_punct ?k1 ?k2 ?k3 ?k4 ?m1 ?m2 ?m3 ?m4 ?k5 ?_; (case k1 => k_asm); (case k2 => k_asm); (case k3 => k_asm); (case k4 => k_asm); (case m1 => k_mem); (case m2 => k_mem); (case m3 => k_mem); (case m4 => k_mem); (case k5 => omega); intro h' tk' t' F' N'; (try k_sweep))
  k_with "call ref" => ((with_reducible show wpAny _ _ (call (Value.ref 562) _) _ _ _); refine' k_read_some ?k0 ?k1 ?k2 ?k3 ?k4 ?k5 ?k6 ?k7 ?_; (case k0 => assumption); (case k1 => k_asm); (case k2 => k_asm); (case k3 => k_asm); (case k4 => k_asm); (case k5 => omega); (case k6 => assumption); (case k7 => assumption); intro h' tk' t' pt' F' N'; (try k_sweep))
  subst hx
  by_cases h : c = n
  · subst h; simp
  · rw [decide_eq_false h]
    refine beq_eq_false_iff_ne.mpr fun e => h ?_
    injection e with e
    injection e with e
    injection e
theorem nl_str : Str.ofString "\n" = ⟨#[10]⟩ := by decide +kernel
theorem frm_next {x : Addr} {nv : Option Value} {q : Bool} {es : Str} {et : Tok} {v : Option Value} (y : Str) : (if y = Str.ofString "nextchar" then v else frm x nv q es et y) = frm x v q es et y := by
  unfold frm; split <;> rfl
theorem rt_head {nv : Option Value} {q : Bool} {es : Str} {et : Tok} {i c : Nat} {rest : List Stmt} {Q : Flow → Shared → Prop} {E : Value → Shared → Prop} (hA : C.Apart) (F : Fr h₀ L s.heap (frm C.x nv q es et)) (N : News h₀ L s.heap (LX w C st ln lt tok tt (i : Int) pt)) (hlt : C.dx < L ∧ C.ds < L ∧ C.x < L ∧ C.y < L)
    (X : (Mine.Ho.frag w.params).In h₀) (T : TopRead p loose mg mb h₀) (hd : A.depth < 920) (hc : C.buf.cps[i]? = some c) (hb : C.buf.length < 1000000)
    (h : ∀ h' tk t' pt' lt', Fr h₀ L h' (frm C.x (some (.str ⟨#[c]⟩ t')) q es et) → News h₀ L h' (LX w C st (if c = 10 then ln + 1 else ln) lt' tok tt (i + 1 : Int) pt') →
      wpAny (model PG w) A (execs rest (rtEnv w L)) Q E { s with heap := h', toks := tk }) :
    wpAny (model PG w) A (execs ((rtTurn w).take 3 ++ rest) (rtEnv w L)) Q E s := by
  obtain ⟨a1, a2, a3, a4, a5, a6⟩ := id hA
  dsimp only [rtTurn, rtEnv, rtFn, mkFn, List.take, List.cons_append, List.nil_append] at h ⊢
  k_steps
  · have e : c = 10 := of_decide_eq_true ((ch_eq nl_str).symm.trans (by assumption))
    simp only [if_pos e] at h
    exact h _ _ _ _ _ (frE (by assumption) frm_next) (by assumption)
  · have e : ¬ c = 10 := of_decide_eq_false ((ch_eq nl_str).symm.trans (by assumption))
    simp only [if_neg e] at h
    exact h _ _ _ _ _ (frE (by assumption) frm_next) (by assumption)

theorem rt_headE {nv : Option Value} {q : Bool} {es : Str} {et : Tok} {rest : List Stmt} {Q : Flow → Shared → Prop} {E : Value → Shared → Prop} (hA : C.Apart) (F : Fr h₀ L s.heap (frm C.x nv q es et)) (N : News h₀ L s.heap (LX w C st ln lt tok tt (C.buf.length : Int) pt)) (hlt : C.dx < L ∧ C.ds < L ∧ C.x < L ∧ C.y < L)
    (X : (Mine.Ho.frag w.params).In h₀) (T : TopRead p loose mg mb h₀) (hd : A.depth < 920) (hb : C.buf.length < 1000000)
    (h : ∀ h' tk t', Fr h₀ L h' (frm C.x (some (.str (Str.ofString "") t')) q es et) → News h₀ L h' (LX w C st ln lt tok tt (C.buf.length : Int) pt) →
      wpAny (model PG w) A (execs rest (rtEnv w L)) Q E { s with heap := h', toks := tk }) :
    wpAny (model PG w) A (execs ((rtTurn w).take 3 ++ rest) (rtEnv w L)) Q E s := by
  k_with "call ref" => ((with_reducible show wpAny _ _ (call (Value.ref 562) _) _ _ _); refine' k_read_end ?k0 ?k1 ?k2 ?k3 ?k4 ?k5 ?k7 ?_; (case k0 => assumption); (case k1 => k_asm); (case k2 => k_asm); (case k3 => k_asm); (case k4 => k_asm); (case k5 => omega); (case k7 => assumption); intro h' tk' t' F' N'; (try k_sweep))
  obtain ⟨a1, a2, a3, a4, a5, a6⟩ := id hA
  dsimp only [rtTurn, rtEnv, rtFn, mkFn, List.take, List.cons_append, List.nil_append] at h ⊢
  k_steps
  all_goals exact h _ _ _ (frE (by assumption) frm_next) (by assumption)
theorem newsTail {h : Heap} {p : Addr × Obj} {l : List (Addr × Obj)} (N : News h₀ L h (p :: l)) : News h₀ L h l := fun q hq => N q (.tail _ hq)
theorem in_ch {Q E : Value → Shared → Prop} {x : Str} {c : Nat} {b : Bool} {u t : Tok} (hb : decide (c ∈ x.cps.toList) = b) (h : Q (.bool b) s) : wpAny (model PG w) A (compareOp .In (.str ⟨#[c]⟩ u) (.str x t)) Q E s :=
  in_str (by rw [StrLaws.found_one, hb]; exact h)
theorem in_cl {Q E : Value → Shared → Prop} {x y : Str} {b : Bool} {u t : Tok} (hb : (!(Builtin.Str.occurrences x y 0 x.length 1).isEmpty) = b) (h : Q (.bool b) s) : wpAny (model PG w) A (compareOp .In (.str y u) (.str x t)) Q E s :=
  in_str (by rw [hb]; exact h)
theorem eq_cl {Q E : Value → Shared → Prop} {x y : Str} {b : Bool} {u t : Tok} (hb : (y == x) = b) (h : Q (.bool b) s) : wpAny (model PG w) A (compareOp .Eq (.str y u) (.str x t)) Q E s :=
  eq_str (by rw [hb]; exact h)
theorem frm_quoted {x : Addr} {nv : Option Value} {q : Bool} {es : Str} {et : Tok} (y : Str) : (if y = Str.ofString "quoted" then some (.bool true) else frm x nv q es et y) = frm x nv true es et y := by
  have e : Str.ofString "quoted" ≠ Str.ofString "nextchar" := by decide +kernel
  unfold frm
  by_cases h : y = Str.ofString "quoted"
  · subst h; rw [if_pos rfl, if_neg e, if_pos rfl]
  · rw [if_neg h, if_neg h, if_neg h]
theorem frm_es {x : Addr} {nv : Option Value} {q : Bool} {es es' : Str} {et et' : Tok} (y : Str) : (if y = Str.ofString "escapedstate" then some (.str es' et') else frm x nv q es et y) = frm x nv q es' et' y := by
  have e1 : Str.ofString "escapedstate" ≠ Str.ofString "nextchar" := by decide +kernel
  have e2 : Str.ofString "escapedstate" ≠ Str.ofString "quoted" := by decide +kernel
  unfold frm
  by_cases h : y = Str.ofString "escapedstate"
  · subst h; rw [if_pos rfl, if_neg e1, if_neg e2, if_pos rfl]
  · rw [if_neg h, if_neg h, if_neg h]
theorem notIn_ch {Q E : Value → Shared → Prop} {x : Str} {c : Nat} {b : Bool} {u t : Tok} (hb : decide (c ∈ x.cps.toList) = b) (h : Q (.bool (!b)) s) : wpAny (model PG w) A (compareOp .NotIn (.str ⟨#[c]⟩ u) (.str x t)) Q E s :=
  notIn_str (by rw [StrLaws.found_one, hb]; exact h)
theorem truthy_ch {Q : Bool → Shared → Prop} {E : Value → Shared → Prop} {c : Nat} {t : Tok} (h : Q true { s with toks := s.toks + 1 + 1 }) : wpAny (model PG w) A (truthy (.str ⟨#[c]⟩ t)) Q E s :=
  P.truthy_str (by show ¬ ((1 : Nat) : Int) ≥ 2 ^ 63; decide) h
end
end Mine
-- part Rt1
set_option maxHeartbeats 8000000
namespace Mine
open PySem PySem.W PySem.Calls PyProof.Rows
section
variable {w : World} {A : Around} {s : Shared} {p : Program} {loose : List Str} {mg mb : Str → Option Value} {h₀ : Heap} {L : Addr} {m : Str → Option Value} {C : LC} {st : Value} {ln pos : Int} {lt tt pt u : Tok} {tok : Str}
theorem rt_a {q : Bool} {es : Str} {et t sk : Tok} {c : Nat} {Q : Flow → Shared → Prop} {E : Value → Shared → Prop} (hA : C.Apart) (F : Fr h₀ L s.heap (frm C.x (some (.str ⟨#[c]⟩ t)) q es et)) (N : News h₀ L s.heap (LX w C (.str (Str.ofString "a") sk) ln lt tok tt pos pt)) (hlt : C.dx < L ∧ C.ds < L ∧ C.x < L ∧ C.y < L)
    (X : (Mine.Ho.frag w.params).In h₀) (T : TopRead p loose mg mb h₀) (hd : A.depth < 920) (hb : tok.length < 1000000) (c1 : decide (c ∈ (Str.ofString " \t\r\n").cps.toList) = false) (c2 : decide (c ∈ (Str.ofString "'\"").cps.toList) = false) (c3 : decide (c ∈ (Str.ofString "\\").cps.toList) = false)
    (h : ∀ h' tk tt', Fr h₀ L h' (frm C.x (some (.str ⟨#[c]⟩ t)) q es et) → News h₀ L h' (LX w C (.str (Str.ofString "a") sk) ln lt (tok ++ ⟨#[c]⟩) tt' pos pt) →
      Q .next { s with heap := h', toks := tk }) :
    wpAny (model PG w) A (execs ((rtTurn w).drop 3) (rtEnv w L)) Q E s := by
  k_with_none
  k_with "compareOp In str str" => first | (refine' in_ch ?hb ?_; (case hb => assumption)) | (refine' in_cl (b := false) ?hb ?_; (case hb => decide +kernel)) | (refine' in_cl (b := true) ?hb ?_; (case hb => decide +kernel))
  k_with "compareOp NotIn str str" => (refine' notIn_ch ?hb ?_; (case hb => assumption))
  k_with "compareOp Eq str str" => first | (refine' eq_cl ?hb ?_; (case hb => assumption)) | (refine' eq_cl (b := false) ?hb ?_; (case hb => decide +kernel)) | (refine' eq_cl (b := true) ?hb ?_; (case hb => decide +kernel))
  k_with "truthy str" => ((with_reducible show wpAny _ _ (truthy (Value.str ⟨#[_]⟩ _)) _ _ _); refine truthy_ch ?_)
  k_with "getAttr ref" => ((with_reducible show wpAny _ _ (getAttr (Value.ref _) (PySem.Str.ofString "punctuation_chars") _) _ _ _); refine' k_punct ?k1 ?k2 ?k3 ?k4 ?m1 ?m2 ?m3 ?m4 ?k5 ?_; (case k1 => k_asm); (case k2 => k_asm); (case k3 => k_asm); (case k4 => k_asm); (case m1 => k_mem); (case m2 => k_mem); (case m3 => k_mem); (case m4 => k_mem); (case k5 => omega); intro h' tk' t' F' N'; (try k_sweep))
  obtain ⟨a1, a2, a3, a4, a5, a6⟩ := id hA
  have c4 : decide (c ∈ (Str.ofString "").cps.toList) = false := by kernel_rfl
  dsimp only [rtTurn, rtEnv, rtFn, mkFn, List.drop] at h ⊢
  k_steps
  all_goals (refine' h _ _ _ (frE (by assumption) ?fr) ?ne; (case fr => first | (intro y; rfl) | exact frm_quoted | exact frm_es); (case ne => first | assumption | exact newsTail (by assumption)))
theorem rt_a_quote {q : Bool} {es : Str} {et t sk : Tok} {c : Nat} {Q : Flow → Shared → Prop} {E : Value → Shared → Prop} (hA : C.Apart) (F : Fr h₀ L s.heap (frm C.x (some (.str ⟨#[c]⟩ t)) q es et)) (N : News h₀ L s.heap (LX w C (.str (Str.ofString "a") sk) ln lt tok tt pos pt)) (hlt : C.dx < L ∧ C.ds < L ∧ C.x < L ∧ C.y < L)
    (X : (Mine.Ho.frag w.params).In h₀) (T : TopRead p loose mg mb h₀) (hd : A.depth < 920) (hb : tok.length < 1000000) (c1 : decide (c ∈ (Str.ofString " \t\r\n").cps.toList) = false) (c2 : decide (c ∈ (Str.ofString "'\"").cps.toList) = true)
    (h : ∀ h' tk, Fr h₀ L h' (frm C.x (some (.str ⟨#[c]⟩ t)) q es et) → News h₀ L h' (LX w C (.str ⟨#[c]⟩ t) ln lt tok tt pos pt) →
      Q .next { s with heap := h', toks := tk }) :
    wpAny (model PG w) A (execs ((rtTurn w).drop 3) (rtEnv w L)) Q E s := by
  obtain ⟨a1, a2, a3, a4, a5, a6⟩ := id hA
  have c4 : decide (c ∈ (Str.ofString "").cps.toList) = false := by kernel_rfl
  dsimp only [rtTurn, rtEnv, rtFn, mkFn, List.drop] at h ⊢
  k_steps
  all_goals (refine' h _ _  (frE (by assumption) ?fr) ?ne; (case fr => first | (intro y; rfl) | exact frm_quoted | exact frm_es); (case ne => first | assumption | exact newsTail (by assumption)))
theorem rt_a_esc {q : Bool} {es : Str} {et t sk : Tok}  {Q : Flow → Shared → Prop} {E : Value → Shared → Prop} (hA : C.Apart) (F : Fr h₀ L s.heap (frm C.x (some (.str ⟨#[92]⟩ t)) q es et)) (N : News h₀ L s.heap (LX w C (.str (Str.ofString "a") sk) ln lt tok tt pos pt)) (hlt : C.dx < L ∧ C.ds < L ∧ C.x < L ∧ C.y < L)
    (X : (Mine.Ho.frag w.params).In h₀) (T : TopRead p loose mg mb h₀) (hd : A.depth < 920) (hb : tok.length < 1000000)  
    (h : ∀ h' tk et', Fr h₀ L h' (frm C.x (some (.str ⟨#[92]⟩ t)) q (Str.ofString "a") et') → News h₀ L h' (LX w C (.str ⟨#[92]⟩ t) ln lt tok tt pos pt) →
      Q .next { s with heap := h', toks := tk }) :
    wpAny (model PG w) A (execs ((rtTurn w).drop 3) (rtEnv w L)) Q E s := by
  obtain ⟨a1, a2, a3, a4, a5, a6⟩ := id hA
  dsimp only [rtTurn, rtEnv, rtFn, mkFn, List.drop] at h ⊢
  k_steps
  all_goals (refine' h _ _ _ (frE (by assumption) ?fr) ?ne; (case fr => first | (intro y; rfl) | exact frm_quoted | exact frm_es); (case ne => first | assumption | exact newsTail (by assumption)))
theorem rt_sq_close {q : Bool} {es : Str} {et t sk : Tok}  {Q : Flow → Shared → Prop} {E : Value → Shared → Prop} (hA : C.Apart) (F : Fr h₀ L s.heap (frm C.x (some (.str ⟨#[39]⟩ t)) q es et)) (N : News h₀ L s.heap (LX w C (.str ⟨#[39]⟩ sk) ln lt tok tt pos pt)) (hlt : C.dx < L ∧ C.ds < L ∧ C.x < L ∧ C.y < L)
    (X : (Mine.Ho.frag w.params).In h₀) (T : TopRead p loose mg mb h₀) (hd : A.depth < 920) (hb : tok.length < 1000000)  
    (h : ∀ h' tk sk', Fr h₀ L h' (frm C.x (some (.str ⟨#[39]⟩ t)) true es et) → News h₀ L h' (LX w C (.str (Str.ofString "a") sk') ln lt tok tt pos pt) →
      Q .next { s with heap := h', toks := tk }) :
    wpAny (model PG w) A (execs ((rtTurn w).drop 3) (rtEnv w L)) Q E s := by
  obtain ⟨a1, a2, a3, a4, a5, a6⟩ := id hA
  dsimp only [rtTurn, rtEnv, rtFn, mkFn, List.drop] at h ⊢
  k_steps
  all_goals (refine' h _ _ _ (frE (by assumption) ?fr) ?ne; (case fr => first | (intro y; rfl) | exact frm_quoted | exact frm_es); (case ne => first | assumption | exact newsTail (by assumption)))
theorem rt_sq {q : Bool} {es : Str} {et t sk : Tok} {c : Nat} {Q : Flow → Shared → Prop} {E : Value → Shared → Prop} (hA : C.Apart) (F : Fr h₀ L s.heap (frm C.x (some (.str ⟨#[c]⟩ t)) q es et)) (N : News h₀ L s.heap (LX w C (.str ⟨#[39]⟩ sk) ln lt tok tt pos pt)) (hlt : C.dx < L ∧ C.ds < L ∧ C.x < L ∧ C.y < L)
    (X : (Mine.Ho.frag w.params).In h₀) (T : TopRead p loose mg mb h₀) (hd : A.depth < 920) (hb : tok.length < 1000000) (ce : ((⟨#[c]⟩ : Str) == ⟨#[39]⟩) = false)
    (h : ∀ h' tk tt', Fr h₀ L h' (frm C.x (some (.str ⟨#[c]⟩ t)) true es et) → News h₀ L h' (LX w C (.str ⟨#[39]⟩ sk) ln lt (tok ++ ⟨#[c]⟩) tt' pos pt) →
      Q .next { s with heap := h', toks := tk }) :
    wpAny (model PG w) A (execs ((rtTurn w).drop 3) (rtEnv w L)) Q E s := by
  obtain ⟨a1, a2, a3, a4, a5, a6⟩ := id hA
  dsimp only [rtTurn, rtEnv, rtFn, mkFn, List.drop] at h ⊢
  k_steps
  all_goals (refine' h _ _ _ (frE (by assumption) ?fr) ?ne; (case fr => first | (intro y; rfl) | exact frm_quoted | exact frm_es); (case ne => first | assumption | exact newsTail (by assumption)))
theorem rt_dq_close {q : Bool} {es : Str} {et t sk : Tok}  {Q : Flow → Shared → Prop} {E : Value → Shared → Prop} (hA : C.Apart) (F : Fr h₀ L s.heap (frm C.x (some (.str ⟨#[34]⟩ t)) q es et)) (N : News h₀ L s.heap (LX w C (.str ⟨#[34]⟩ sk) ln lt tok tt pos pt)) (hlt : C.dx < L ∧ C.ds < L ∧ C.x < L ∧ C.y < L)
    (X : (Mine.Ho.frag w.params).In h₀) (T : TopRead p loose mg mb h₀) (hd : A.depth < 920) (hb : tok.length < 1000000)  
    (h : ∀ h' tk sk', Fr h₀ L h' (frm C.x (some (.str ⟨#[34]⟩ t)) true es et) → News h₀ L h' (LX w C (.str (Str.ofString "a") sk') ln lt tok tt pos pt) →
      Q .next { s with heap := h', toks := tk }) :
    wpAny (model PG w) A (execs ((rtTurn w).drop 3) (rtEnv w L)) Q E s := by
  obtain ⟨a1, a2, a3, a4, a5, a6⟩ := id hA
  dsimp only [rtTurn, rtEnv, rtFn, mkFn, List.drop] at h ⊢
  k_steps
  all_goals (refine' h _ _ _ (frE (by assumption) ?fr) ?ne; (case fr => first | (intro y; rfl) | exact frm_quoted | exact frm_es); (case ne => first | assumption | exact newsTail (by assumption)))
theorem rt_dq {q : Bool} {es : Str} {et t sk : Tok}  {Q : Flow → Shared → Prop} {E : Value → Shared → Prop} (hA : C.Apart) (F : Fr h₀ L s.heap (frm C.x (some (.str ⟨#[39]⟩ t)) q es et)) (N : News h₀ L s.heap (LX w C (.str ⟨#[34]⟩ sk) ln lt tok tt pos pt)) (hlt : C.dx < L ∧ C.ds < L ∧ C.x < L ∧ C.y < L)
    (X : (Mine.Ho.frag w.params).In h₀) (T : TopRead p loose mg mb h₀) (hd : A.depth < 920) (hb : tok.length < 1000000)  
    (h : ∀ h' tk tt', Fr h₀ L h' (frm C.x (some (.str ⟨#[39]⟩ t)) true es et) → News h₀ L h' (LX w C (.str ⟨#[34]⟩ sk) ln lt (tok ++ ⟨#[39]⟩) tt' pos pt) →
      Q .next { s with heap := h', toks := tk }) :
    wpAny (model PG w) A (execs ((rtTurn w).drop 3) (rtEnv w L)) Q E s := by
  obtain ⟨a1, a2, a3, a4, a5, a6⟩ := id hA
  dsimp only [rtTurn, rtEnv, rtFn, mkFn, List.drop] at h ⊢
  k_steps
  all_goals (refine' h _ _ _ (frE (by assumption) ?fr) ?ne; (case fr => first | (intro y; rfl) | exact frm_quoted | exact frm_es); (case ne => first | assumption | exact newsTail (by assumption)))
theorem rt_esc {q : Bool} {es : Str} {et t sk : Tok} {c : Nat} {Q : Flow → Shared → Prop} {E : Value → Shared → Prop} (hA : C.Apart) (F : Fr h₀ L s.heap (frm C.x (some (.str ⟨#[c]⟩ t)) q (Str.ofString "a") et)) (N : News h₀ L s.heap (LX w C (.str ⟨#[92]⟩ sk) ln lt tok tt pos pt)) (hlt : C.dx < L ∧ C.ds < L ∧ C.x < L ∧ C.y < L)
    (X : (Mine.Ho.frag w.params).In h₀) (T : TopRead p loose mg mb h₀) (hd : A.depth < 920) (hb : tok.length < 1000000)  
    (h : ∀ h' tk tt', Fr h₀ L h' (frm C.x (some (.str ⟨#[c]⟩ t)) q (Str.ofString "a") et) → News h₀ L h' (LX w C (.str (Str.ofString "a") et) ln lt (tok ++ ⟨#[c]⟩) tt' pos pt) →
      Q .next { s with heap := h', toks := tk }) :
    wpAny (model PG w) A (execs ((rtTurn w).drop 3) (rtEnv w L)) Q E s := by
  obtain ⟨a1, a2, a3, a4, a5, a6⟩ := id hA
  dsimp only [rtTurn, rtEnv, rtFn, mkFn, List.drop] at h ⊢
  k_steps
  all_goals (refine' h _ _ _ (frE (by assumption) ?fr) ?ne; (case fr => first | (intro y; rfl) | exact frm_quoted | exact frm_es); (case ne => first | assumption | exact newsTail (by assumption)))
theorem rt_start {q : Bool} {es : Str} {et t sk : Tok} {c : Nat} {Q : Flow → Shared → Prop} {E : Value → Shared → Prop} (hA : C.Apart) (F : Fr h₀ L s.heap (frm C.x (some (.str ⟨#[c]⟩ t)) q es et)) (N : News h₀ L s.heap (LX w C (.str (Str.ofString " ") sk) ln lt tok tt pos pt)) (hlt : C.dx < L ∧ C.ds < L ∧ C.x < L ∧ C.y < L)
    (X : (Mine.Ho.frag w.params).In h₀) (T : TopRead p loose mg mb h₀) (hd : A.depth < 920) (hb : tok.length < 1000000) (c1 : decide (c ∈ (Str.ofString " \t\r\n").cps.toList) = false) (c2 : decide (c ∈ (Str.ofString "'\"").cps.toList) = false) (c3 : decide (c ∈ (Str.ofString "\\").cps.toList) = false)
    (h : ∀ h' tk tt' sk', Fr h₀ L h' (frm C.x (some (.str ⟨#[c]⟩ t)) q es et) → News h₀ L h' (LX w C (.str (Str.ofString "a") sk') ln lt ⟨#[c]⟩ tt' pos pt) →
      Q .next { s with heap := h', toks := tk }) :
    wpAny (model PG w) A (execs ((rtTurn w).drop 3) (rtEnv w L)) Q E s := by
  obtain ⟨a1, a2, a3, a4, a5, a6⟩ := id hA
  have c4 : decide (c ∈ (Str.ofString "").cps.toList) = false := by kernel_rfl
  dsimp only [rtTurn, rtEnv, rtFn, mkFn, List.drop] at h ⊢
  k_steps
  all_goals (refine' h _ _ _ _ (frE (by assumption) ?fr) ?ne; (case fr => first | (intro y; rfl) | exact frm_quoted | exact frm_es); (case ne => first | assumption | exact newsTail (by assumption)))
theorem rt_eof {q : Bool} {es : Str} {et t sk : Tok}  {Q : Flow → Shared → Prop} {E : Value → Shared → Prop} (hA : C.Apart) (F : Fr h₀ L s.heap (frm C.x (some (.str (Str.ofString "") t)) q es et)) (N : News h₀ L s.heap (LX w C (.str (Str.ofString "a") sk) ln lt tok tt pos pt)) (hlt : C.dx < L ∧ C.ds < L ∧ C.x < L ∧ C.y < L)
    (X : (Mine.Ho.frag w.params).In h₀) (T : TopRead p loose mg mb h₀) (hd : A.depth < 920) (hb : tok.length < 1000000)  
    (h : ∀ h' tk, Fr h₀ L h' (frm C.x (some (.str (Str.ofString "") t)) q es et) → News h₀ L h' (LX w C Value.none ln lt tok tt pos pt) →
      Q .brk { s with heap := h', toks := tk }) :
    wpAny (model PG w) A (execs ((rtTurn w).drop 3) (rtEnv w L)) Q E s := by
  obtain ⟨a1, a2, a3, a4, a5, a6⟩ := id hA
  dsimp only [rtTurn, rtEnv, rtFn, mkFn, List.drop] at h ⊢
  k_steps
  all_goals (refine' h _ _  (frE (by assumption) ?fr) ?ne; (case fr => first | (intro y; rfl) | exact frm_quoted | exact frm_es); (case ne => first | assumption | exact newsTail (by assumption)))
theorem rt_none {q : Bool} {es : Str} {et t sk : Tok}  {Q : Flow → Shared → Prop} {E : Value → Shared → Prop} (hA : C.Apart) (F : Fr h₀ L s.heap (frm C.x (some (.str (Str.ofString "") t)) q es et)) (N : News h₀ L s.heap (LX w C Value.none ln lt tok tt pos pt)) (hlt : C.dx < L ∧ C.ds < L ∧ C.x < L ∧ C.y < L)
    (X : (Mine.Ho.frag w.params).In h₀) (T : TopRead p loose mg mb h₀) (hd : A.depth < 920) (hb : tok.length < 1000000)  
    (h : ∀ h' tk tt', Fr h₀ L h' (frm C.x (some (.str (Str.ofString "") t)) q es et) → News h₀ L h' (LX w C Value.none ln lt (Str.ofString "") tt' pos pt) →
      Q .brk { s with heap := h', toks := tk }) :
    wpAny (model PG w) A (execs ((rtTurn w).drop 3) (rtEnv w L)) Q E s := by
  obtain ⟨a1, a2, a3, a4, a5, a6⟩ := id hA
  dsimp only [rtTurn, rtEnv, rtFn, mkFn, List.drop] at h ⊢
  k_steps
  all_goals (refine' h _ _ _ (frE (by assumption) ?fr) ?ne; (case fr => first | (intro y; rfl) | exact frm_quoted | exact frm_es); (case ne => first | assumption | exact newsTail (by assumption)))
end
end Mine
-- part Rt2
set_option maxHeartbeats 8000000
namespace Mine
open PySem PySem.W PySem.Calls PyProof.Rows

inductive Mode
  | start | a | sq | dq | esc

def plainCh (c : Nat) : Prop := c ∉ [32, 9, 13, 10] ∧ c ∉ [39, 34] ∧ c ≠ 92

/-- the shell's reading of a text, sign by sign: from a mode, what lies ahead gives these signs of one word -/
inductive Lx : Mode → List Nat → List Nat → Prop
  | eof : Lx .a [] []
  | start {c cs out} : plainCh c → Lx .a cs out → Lx .start (c :: cs) (c :: out)
  | plain {c cs out} : plainCh c → Lx .a cs out → Lx .a (c :: cs) (c :: out)
  | squote {cs out} : Lx .sq cs out → Lx .a (39 :: cs) out
  | dquote {cs out} : Lx .dq cs out → Lx .a (34 :: cs) out
  | bs {cs out} : Lx .esc cs out → Lx .a (92 :: cs) out
  | sqc {cs out} : Lx .a cs out → Lx .sq (39 :: cs) out
  | sqo {c cs out} : c ≠ 39 → Lx .sq cs out → Lx .sq (c :: cs) (c :: out)
  | dqc {cs out} : Lx .a cs out → Lx .dq (34 :: cs) out
  | dqo {cs out} : Lx .dq cs out → Lx .dq (39 :: cs) (39 :: out)
  | esc {c cs out} : Lx .a cs out → Lx .esc (c :: cs) (c :: out)

def Mode.val (t : Tok) : Mode → Value
  | .start => .str (Str.ofString " ") t
  | .a => .str (Str.ofString "a") t
  | .sq => .str ⟨#[39]⟩ t
  | .dq => .str ⟨#[34]⟩ t
  | .esc => .str ⟨#[92]⟩ t

theorem ws_of {c : Nat} (h : plainCh c) : decide (c ∈ (Str.ofString " \t\r\n").cps.toList) = false := by
  have e : (Str.ofString " \t\r\n").cps.toList = [32, 9, 13, 10] := by decide +kernel
  rw [e]; exact decide_eq_false h.1
theorem qu_of {c : Nat} (h : plainCh c) : decide (c ∈ (Str.ofString "'\"").cps.toList) = false := by
  have e : (Str.ofString "'\"").cps.toList = [39, 34] := by decide +kernel
  rw [e]; exact decide_eq_false h.2.1
theorem es_of {c : Nat} (h : plainCh c) : decide (c ∈ (Str.ofString "\\").cps.toList) = false := by
  have e : (Str.ofString "\\").cps.toList = [92] := by decide +kernel
  rw [e]; exact decide_eq_false (by simpa using h.2.2)

section
variable {w : World} {A : Around} {s : Shared} {p : Program} {loose : List Str} {mg mb : Str → Option Value} {h₀ : Heap} {L : Addr} {m : Str → Option Value} {C : LC} {st : Value} {ln pos : Int} {lt tt pt u : Tok} {tok : Str}

/-- what holds between two turns -/
def RtInv (w : World) (C : LC) (fin : Str) (n : Nat) (m : Str → Option Value) (news : List (Addr × Obj)) : Prop :=
  ∃ md cs out i nv q es et sk ln lt tok tt pt, n = cs.length ∧ Lx md cs out ∧ C.buf.cps.toList.drop i = cs ∧ i ≤ C.buf.length ∧ tok ++ ⟨out.toArray⟩ = fin ∧ (md = .esc → es = Str.ofString "a") ∧ (md = .start → tok = Str.ofString "") ∧
    m = frm C.x nv q es et ∧ news = LX w C (Mode.val sk md) ln lt tok tt (i : Int) pt

theorem str_app_nil (x : Str) : x ++ (⟨([] : List Nat).toArray⟩ : Str) = x := by
  apply Str.ext'; rw [Str.cps_append]; simp
theorem str_app_cons (x : Str) (c : Nat) (l : List Nat) : x ++ (⟨(c :: l).toArray⟩ : Str) = (x ++ ⟨#[c]⟩) ++ ⟨l.toArray⟩ := by
  apply Str.ext'
  rw [Str.cps_append, Str.cps_append, Str.cps_append]
  apply Array.ext'
  simp
theorem str_empty_app (x : Str) : Str.ofString "" ++ x = x := by
  have e : Str.ofString "" = ⟨#[]⟩ := by decide +kernel
  rw [e]; apply Str.ext'; rw [Str.cps_append]; simp
theorem drop_step {l cs : List Nat} {i c : Nat} (h : l.drop i = c :: cs) : l[i]? = some c ∧ l.drop (i + 1) = cs ∧ i + 1 ≤ l.length := by
  have hl : i < l.length := by
    rcases Nat.lt_or_ge i l.length with q | q
    · exact q
    · rw [List.drop_eq_nil_of_le q] at h; cases h
  rw [List.drop_eq_getElem_cons hl] at h
  injection h with h1 h2
  exact ⟨by rw [List.getElem?_eq_getElem hl, h1], h2, hl⟩

/-- a turn's end, the rest ahead -/
theorem rt_next {fin : Str} {md : Mode} {cs out : List Nat} {c i : Nat} {nv : Option Value} {q : Bool} {es : Str} {et sk : Tok} {Q : Flow → Shared → Prop} {h' : Heap} {tk : Nat} (f : Flow) (hf : f = .next) (hl : Lx md cs out) (hdr : C.buf.cps.toList.drop (i + 1) = cs) (hi : i + 1 ≤ C.buf.length) (he : tok ++ ⟨out.toArray⟩ = fin)
    (hes : md = .esc → es = Str.ofString "a") (hst : md ≠ .start) (F : Fr h₀ L h' (frm C.x nv q es et)) (N : News h₀ L h' (LX w C (Mode.val sk md) ln lt tok tt ((i : Int) + 1) pt)) :
    WhileStep2 h₀ L s (RtInv w C fin) Q (c :: cs).length f { s with heap := h', toks := tk } := by
  subst hf
  exact ⟨h', tk, _, _, cs.length, rfl, F, N, Nat.lt_succ_self _, md, cs, out, i + 1, nv, q, es, et, sk, ln, lt, tok, tt, pt, rfl, hl, hdr, hi, he, hes, fun e => absurd e hst, rfl, rfl⟩

theorem rt_loop {fin : Str} {ps : Pos} {Q : Flow → Shared → Prop} {n : Nat} {news : List (Addr × Obj)} (hA : C.Apart) (F : Fr h₀ L s.heap m) (N : News h₀ L s.heap news) (hJ : RtInv w C fin n m news) (hlt : C.dx < L ∧ C.ds < L ∧ C.x < L ∧ C.y < L)
    (X : (Mine.Ho.frag w.params).In h₀) (T : TopRead p loose mg mb h₀) (hd : A.depth < 920) (hb : C.buf.length < 1000000) (hf : fin.length < 1000000) (tp : Pos)
    (h : ∀ h' tk nv q es et ln lt tt pt, Fr h₀ L h' (frm C.x nv q es et) → News h₀ L h' (LX w C .none ln lt fin tt (C.buf.length : Int) pt) → Q .next { s with heap := h', toks := tk }) :
    wpAny (model PG w) A (exec (.While (.Constant (.bool true) 0 tp) (rtTurn w) [] ps) (rtEnv w L)) Q (fun _ _ => False) s := by
  refine While_inv2 (L := L) (RtInv w C fin) F N hJ ?_
  clear F N hJ
  rintro n m₁ news₁ h₁ tk₁ F N ⟨md, cs, out, i, nv, q, es, et, sk, ln, lt, tok, tt, pt, rfl, hl, hdr, hi, rfl, hes, hst, rfl, rfl⟩
  walk1
  walk1
  walk1
  walk1
  rw [← List.take_append_drop 3 (rtTurn w)]
  have htl : tok.length < 1000000 := by
    have := Str.length_append tok ⟨out.toArray⟩
    omega
  have hch : ∀ {c cs'}, cs = c :: cs' → C.buf.cps[i]? = some c ∧ C.buf.cps.toList.drop (i + 1) = cs' ∧ i + 1 ≤ C.buf.length := fun {c cs'} e => by
    obtain ⟨h1, h2, h3⟩ := drop_step (hdr.trans e)
    exact ⟨by simpa using h1, h2, by simpa [Str.length] using h3⟩
  cases hl with
  | eof =>
    have e : i = C.buf.length := by
      have h1 := List.drop_eq_nil_iff.mp hdr
      rw [Array.length_toList] at h1
      exact Nat.le_antisymm hi h1
    subst e
    refine rt_headE hA F N hlt X T hd hb fun h' tk t' F' N' => rt_eof hA F' N' hlt X T hd htl fun h'' tk' F'' N'' => ?_
    rw [str_app_nil] at h
    exact h _ _ _ _ _ _ _ _ _ _ F'' N''
  | @start c cs' out hp hr =>
    obtain ⟨hc, hd', hi'⟩ := hch rfl
    refine rt_head hA F N hlt X T hd hc hb fun h' tk t' pt' lt' F' N' => rt_start hA F' N' hlt X T hd htl (ws_of hp) (qu_of hp) (es_of hp) fun h'' tk' tt' sk' F'' N'' => ?_
    refine rt_next (md := .a) _ rfl hr hd' hi' ?_ (fun e => nomatch e) (fun e => nomatch e) F'' N''
    have e := str_app_cons (Str.ofString "") c out
    rw [str_empty_app, str_empty_app] at e
    rw [hst rfl, str_empty_app]
    exact e.symm
  | plain hp hr =>
    obtain ⟨hc, hd', hi'⟩ := hch rfl
    refine rt_head hA F N hlt X T hd hc hb fun h' tk t' pt' lt' F' N' => rt_a hA F' N' hlt X T hd htl (ws_of hp) (qu_of hp) (es_of hp) fun h'' tk' tt' F'' N'' => ?_
    exact rt_next (md := .a) _ rfl hr hd' hi' (str_app_cons _ _ _).symm (fun e => nomatch e) (fun e => nomatch e) F'' N''
  | squote hr =>
    obtain ⟨hc, hd', hi'⟩ := hch rfl
    refine rt_head hA F N hlt X T hd hc hb fun h' tk t' pt' lt' F' N' => rt_a_quote hA F' N' hlt X T hd htl (by decide +kernel) (by decide +kernel) fun h'' tk' F'' N'' => ?_
    exact rt_next (md := .sq) _ rfl hr hd' hi' rfl (fun e => nomatch e) (fun e => nomatch e) F'' N''
  | dquote hr =>
    obtain ⟨hc, hd', hi'⟩ := hch rfl
    refine rt_head hA F N hlt X T hd hc hb fun h' tk t' pt' lt' F' N' => rt_a_quote hA F' N' hlt X T hd htl (by decide +kernel) (by decide +kernel) fun h'' tk' F'' N'' => ?_
    exact rt_next (md := .dq) _ rfl hr hd' hi' rfl (fun e => nomatch e) (fun e => nomatch e) F'' N''
  | bs hr =>
    obtain ⟨hc, hd', hi'⟩ := hch rfl
    refine rt_head hA F N hlt X T hd hc hb fun h' tk t' pt' lt' F' N' => rt_a_esc hA F' N' hlt X T hd htl fun h'' tk' et' F'' N'' => ?_
    exact rt_next (md := .esc) _ rfl hr hd' hi' rfl (fun _ => rfl) (fun e => nomatch e) F'' N''
  | sqc hr =>
    obtain ⟨hc, hd', hi'⟩ := hch rfl
    refine rt_head hA F N hlt X T hd hc hb fun h' tk t' pt' lt' F' N' => rt_sq_close hA F' N' hlt X T hd htl fun h'' tk' sk' F'' N'' => ?_
    exact rt_next (md := .a) _ rfl hr hd' hi' rfl (fun e => nomatch e) (fun e => nomatch e) F'' N''
  | sqo hne hr =>
    obtain ⟨hc, hd', hi'⟩ := hch rfl
    refine rt_head hA F N hlt X T hd hc hb fun h' tk t' pt' lt' F' N' => rt_sq hA F' N' hlt X T hd htl ((ch_eq rfl).trans (decide_eq_false hne)) fun h'' tk' tt' F'' N'' => ?_
    exact rt_next (md := .sq) _ rfl hr hd' hi' (str_app_cons _ _ _).symm (fun e => nomatch e) (fun e => nomatch e) F'' N''
  | dqc hr =>
    obtain ⟨hc, hd', hi'⟩ := hch rfl
    refine rt_head hA F N hlt X T hd hc hb fun h' tk t' pt' lt' F' N' => rt_dq_close hA F' N' hlt X T hd htl fun h'' tk' sk' F'' N'' => ?_
    exact rt_next (md := .a) _ rfl hr hd' hi' rfl (fun e => nomatch e) (fun e => nomatch e) F'' N''
  | dqo hr =>
    obtain ⟨hc, hd', hi'⟩ := hch rfl
    refine rt_head hA F N hlt X T hd hc hb fun h' tk t' pt' lt' F' N' => rt_dq hA F' N' hlt X T hd htl fun h'' tk' tt' F'' N'' => ?_
    exact rt_next (md := .dq) _ rfl hr hd' hi' (str_app_cons _ _ _).symm (fun e => nomatch e) (fun e => nomatch e) F'' N''
  | esc hr =>
    obtain ⟨hc, hd', hi'⟩ := hch rfl
    obtain rfl := hes rfl
    refine rt_head hA F N hlt X T hd hc hb fun h' tk t' pt' lt' F' N' => rt_esc (es := Str.ofString "a") hA F' N' hlt X T hd htl fun h'' tk' tt' F'' N'' => ?_
    exact rt_next (md := .a) _ rfl hr hd' hi' (str_app_cons _ _ _).symm (fun e => nomatch e) (fun e => nomatch e) F'' N''

theorem frm_in {x : Addr} {t : Tok} (y : Str) : (if y = Str.ofString "escapedstate" then some (.str (Str.ofString " ") t) else if y = Str.ofString "quoted" then some (.bool false) else [(Str.ofString "self", Value.ref x)].reverse.lookup y) = frm x none false (Str.ofString " ") t y := by
  k_with_none
  k_with "enterH" => (k_dflt (case k1 => k_asm); (case k2 => k_asm); (case k3 => assumption);  (case k4 => k_is); (case k5 => k_is); (case k7 => first | exact BindsTo.of_eq rfl | exact binds_K (by assumption) rfl (by k_is) rfl rfl rfl); (case k8 => exact locs rfl); (case c1 => exact rfl); (case c2 => exact rfl); (case c3 => exact rfl); (case c4 => decide))
  have e1 : Str.ofString "escapedstate" ≠ Str.ofString "nextchar" := by decide +kernel
  have e2 : Str.ofString "escapedstate" ≠ Str.ofString "quoted" := by decide +kernel
  have e3 : Str.ofString "quoted" ≠ Str.ofString "nextchar" := by decide +kernel
  unfold frm
  by_cases h : y = Str.ofString "escapedstate"
  · subst h; simp only [if_pos, if_neg e1, if_neg e2]
  · by_cases h2 : y = Str.ofString "quoted"
    · subst h2; simp only [if_pos, if_neg e3, if_neg h]
    · by_cases h3 : y = Str.ofString "nextchar"
      · subst h3; simp only [if_pos, if_neg h, if_neg h2]; rfl
      · simp only [if_neg h, if_neg h2, if_neg h3]

theorem k_read_token {out : List Nat} {lt tt pt sk : Tok} {Q E : Value → Shared → Prop} (hA : C.Apart) (F : Fr h₀ L s.heap m) (N : News h₀ L s.heap (LX w C (.str (Str.ofString " ") sk) ln lt (Str.ofString "") tt 0 pt)) (X₀ : (Mine.Ho.frag w.params).In h₀) (T₀ : TopRead p loose mg mb h₀) (hd : A.depth < 910)
    (hb : C.buf.length < 1000000) (hl : Lx .start C.buf.cps.toList out) (ho : (⟨out.toArray⟩ : Str).length < 1000000)
    (h : ∀ h' tk ln lt t' tt' pt', Fr h₀ L h' m → News h₀ L h' (LX w C .none ln lt (Str.ofString "") tt' (C.buf.length : Int) pt') → Q (.str ⟨out.toArray⟩ t') { s with heap := h', toks := tk }) :
    wpAny (model PG w) A (call (.ref 719) [.ref C.x]) Q E s := by
  have k₀ := F.keep
  have hne : ((⟨out.toArray⟩ : Str) == Str.ofString "") = false := by
    have e : Str.ofString "" = ⟨#[]⟩ := by decide +kernel
    rw [e]
    generalize C.buf.cps.toList = l at hl
    cases hl with
    | start _ _ => rfl
  refine' call_fnH (news := LX w C (.str (Str.ofString " ") sk) ln lt (Str.ofString "") tt 0 pt) (binds := [(Str.ofString "self", .ref C.x)]) ?k1 ?k2 ?k3 (n0_of N) ?k4 ?k5 ?k6 ?k7 ?k8 ?_ ?c1 ?c2 ?c3 ?c4
  walk_at "enterH"
  case k6 => exact Nat.lt_trans hd (by decide)
  replace h : ∀ h' tk ln lt t' tt' pt', KeepsBut (LXa C) s.heap h' → (∀ p ∈ LX w C .none ln lt (Str.ofString "") tt' (C.buf.length : Int) pt', h'.get? p.1 = some p.2) → Q (.str ⟨out.toArray⟩ t') { s with heap := h', toks := tk } :=
    fun h' tk ln lt t' tt' pt' kb O => let ⟨a, b⟩ := lx_back F N kb O; h h' tk ln lt t' tt' pt' a b
  obtain ⟨a1, a2, a3, a4, a5, a6⟩ := id hA
  clear F N X₀ T₀ k₀
  intro g L' h₁ tk kb X T F N lt'
  k_fold
  k_lt lt'
  walk1
  walk1
  walk1
  walk1
  dsimp only
  walk1
  walk1
  walk1
  walk1
  dsimp only
  walk1
  walk1
  walk1
  rename Fr g L' _ _ => F1
  rename News g L' _ _ => N1
  have F2 := frE F1 frm_in
  refine' rt_loop (fin := ⟨out.toArray⟩) hA ?F ?N ?J ?k4 ?k5 ?k6 ?k7 hb ho _ ?_
  case F => exact F2
  case N => exact N1
  case J => exact ⟨.start, C.buf.cps.toList, out, 0, none, false, _, _, sk, ln, lt, Str.ofString "", tt, pt, rfl, hl, rfl, Nat.zero_le _, str_empty_app _, (fun e => nomatch e), (fun _ => rfl), rfl, rfl⟩
  case k4 => exact lt'
  case k5 => exact X
  case k6 => exact T
  case k7 => show _ + 1 < _; omega
  clear F1 N1 F2 hl
  intro h' tk' nv' q' es' et' ln' lt'' tt' pt' F' N'
  k_steps
  all_goals exact h _ _ _ _ _ _ _ (keepsBut_end kb (by assumption)) (fun p hp => (‹News g L' _ _› p hp).1)

theorem rt_loop0 {ps : Pos} {nv : Option Value} {q : Bool} {es : Str} {et : Tok} {Q : Flow → Shared → Prop} (hA : C.Apart) (F : Fr h₀ L s.heap (frm C.x nv q es et)) (N : News h₀ L s.heap (LX w C .none ln lt tok tt (C.buf.length : Int) pt)) (hlt : C.dx < L ∧ C.ds < L ∧ C.x < L ∧ C.y < L)
    (X : (Mine.Ho.frag w.params).In h₀) (T : TopRead p loose mg mb h₀) (hd : A.depth < 920) (hb : C.buf.length < 1000000) (htl : tok.length < 1000000) (tp : Pos)
    (h : ∀ h' tk nv tt, Fr h₀ L h' (frm C.x nv q es et) → News h₀ L h' (LX w C .none ln lt (Str.ofString "") tt (C.buf.length : Int) pt) → Q .next { s with heap := h', toks := tk }) :
    wpAny (model PG w) A (exec (.While (.Constant (.bool true) 0 tp) (rtTurn w) [] ps) (rtEnv w L)) Q (fun _ _ => False) s := by
  refine While_inv2 (L := L) (n₀ := 0) (fun _ m₁ news₁ => m₁ = frm C.x nv q es et ∧ news₁ = LX w C .none ln lt tok tt (C.buf.length : Int) pt) F N ⟨rfl, rfl⟩ ?_
  clear F N
  rintro n m₁ news₁ h₁ tk₁ F N ⟨rfl, rfl⟩
  walk1
  walk1
  walk1
  walk1
  rw [← List.take_append_drop 3 (rtTurn w)]
  exact rt_headE hA F N hlt X T hd hb fun h' tk t' F' N' => rt_none (sk := 0) hA F' N' hlt X T hd htl fun h'' tk' tt' F'' N'' => h _ _ _ _ F'' N''

theorem k_read_token0 {lt tt pt : Tok} {Q E : Value → Shared → Prop} (hA : C.Apart) (F : Fr h₀ L s.heap m) (N : News h₀ L s.heap (LX w C .none ln lt (Str.ofString "") tt (C.buf.length : Int) pt)) (X₀ : (Mine.Ho.frag w.params).In h₀) (T₀ : TopRead p loose mg mb h₀) (hd : A.depth < 910)
    (hb : C.buf.length < 1000000)
    (h : ∀ h' tk tt', Fr h₀ L h' m → News h₀ L h' (LX w C .none ln lt (Str.ofString "") tt' (C.buf.length : Int) pt) → Q .none { s with heap := h', toks := tk }) :
    wpAny (model PG w) A (call (.ref 719) [.ref C.x]) Q E s := by
  have k₀ := F.keep
  refine' call_fnH (news := LX w C .none ln lt (Str.ofString "") tt (C.buf.length : Int) pt) (binds := [(Str.ofString "self", .ref C.x)]) ?k1 ?k2 ?k3 (n0_of N) ?k4 ?k5 ?k6 ?k7 ?k8 ?_ ?c1 ?c2 ?c3 ?c4
  walk_at "enterH"
  case k6 => exact Nat.lt_trans hd (by decide)
  replace h : ∀ h' tk tt', KeepsBut (LXa C) s.heap h' → (∀ p ∈ LX w C .none ln lt (Str.ofString "") tt' (C.buf.length : Int) pt, h'.get? p.1 = some p.2) → Q .none { s with heap := h', toks := tk } :=
    fun h' tk tt' kb O => let ⟨a, b⟩ := lx_back F N kb O; h h' tk tt' a b
  obtain ⟨a1, a2, a3, a4, a5, a6⟩ := id hA
  clear F N X₀ T₀ k₀
  intro g L' h₁ tk kb X T F N lt'
  k_fold
  k_lt lt'
  walk1
  walk1
  walk1
  walk1
  dsimp only
  walk1
  walk1
  walk1
  walk1
  dsimp only
  walk1
  walk1
  walk1
  rename Fr g L' _ _ => F1
  rename News g L' _ _ => N1
  have F2 := frE F1 frm_in
  refine' rt_loop0 hA ?F ?N ?k4 ?k5 ?k6 ?k7 hb ?k8 _ ?_
  case F => exact F2
  case N => exact N1
  case k4 => exact lt'
  case k5 => exact X
  case k6 => exact T
  case k7 => show _ + 1 < _; omega
  case k8 => decide +kernel
  clear F1 N1 F2
  intro h' tk' nv' tt' F' N'
  k_steps
  all_goals exact h _ _ _ (keepsBut_end kb (by assumption)) (fun p hp => (‹News g L' _ _› p hp).1)
end
end Mine
-- part Dq
set_option maxHeartbeats 8000000
namespace Mine
open PySem PySem.W PySem.Calls PyProof.Rows

/-- an empty deque -/
def DqAt (h : Heap) (a : Addr) : Prop := ∃ o vs, h.get? a = some o ∧ o.cls = .type "collections.deque" ∧ o.data = .fields vs ∧ vs.size = 2
theorem DqAt.keeps {h h' : Heap} {a : Addr} (d : DqAt h a) (k : Keeps h h') : DqAt h' a := let ⟨o, vs, e, r⟩ := d; ⟨o, vs, k _ _ e, r⟩
theorem DqAt.typeIs {s : Shared} {a : Addr} (d : DqAt s.heap a) : s.TypeIs (.ref a) "collections.deque" := by
  obtain ⟨o, vs, e, c, _⟩ := d
  exact ⟨o, e, c⟩
theorem slot_dq_len : Slot "collections.deque" "__len__" "collections.deque.__len__" :=
  .of (owner := "collections.deque") (n := "__len__") (by rw [typeLookup_type, builtinLookup_eq_fast]; kernel_rfl) (by decide +kernel) (by decide +kernel) (by decide +kernel)
    (by first | exact .inl (by decide +kernel) | exact .inr (by decide +kernel)) (by rw [isSubtype_type]; kernel_rfl)
theorem entry_dq_len : entryFor table "collections.deque.__len__" = some Builtin.«collections.deque.__len__» := entryFor_of_tree (by kernel_rfl)
theorem args_dq_len (a : Value) : argsOk "collections.deque.__len__" ⟨[a], []⟩ := by unfold argsOk; rw [PySem.W.S.signatureZ_eq]; kernel_rfl
theorem noBool_dq : typeLookup (.type "collections.deque") "__bool__" = pure none := by rw [typeLookup_type, builtinLookup_eq_fast]; kernel_rfl
section
variable {prog : Program} {w : World} {A : Around} {E : Value → Shared → Prop} {s : Shared}
theorem dq_len_body {a : Addr} {Q : Value → Shared → Prop} (d : DqAt s.heap a)
    (h : Q (.int 0 (s.toks + 1)) { s with toks := s.toks + 1 + 1 }) : wpAny (model prog w) A (Builtin.«len» ⟨[.ref a], []⟩) (fun fin s' => ∃ r, fin = .done (.ret r) ∧ Q r s') E s := by
  obtain ⟨o, vs, ho, hc, hd, hz⟩ := id d
  unfold Builtin.«len»
  refine wpAny_bind (m := oneArg "len" _) (wpAny_pure ?_)
  refine wpAny_bind (m := callSpecial? (.ref a) (Str.ofString "__len__")) (wpAny_callSpecial?_slot (name := Str.ofString "__len__") d.typeIs slot_dq_len
    (wpAny_call_entry slot_dq_len d.typeIs entry_dq_len ?_ (args_dq_len _)))
  show wpAny _ _ (do retInt (← Builtin.Deque.size (.ref a))) _ _ s
  unfold Builtin.Deque.size
  refine wpAny_bind (wpAny_bind (wpAny_fieldsOf ho hd (wpAny_pure ?_)))
  rw [hz]
  refine wpAny_bind (wpAny_mkInt (wpAny_pure ⟨_, rfl, ?_⟩))
  refine wpAny_bind (wpAny_holding (wpAny_pure ?_))
  refine wpAny_bind (wpAny_letGo ?_)
  exact wpAny_bind (wpAny_mkInt (wpAny_pure ⟨_, rfl, h⟩))
theorem truthy_dq {a : Addr} {Q : Bool → Shared → Prop} (d : DqAt s.heap a)
    (h : Q false { s with toks := s.toks + 1 + 1 }) : wpAny (model prog w) A (truthy (.ref a)) Q E s := by
  have key : wpAny (model prog w) A (runValue (.builtin "len" ⟨[.ref a], []⟩)) (fun r s' => r = .int 0 (s.toks + 1) ∧ Q false s') E s := by
    refine wpAny_runValue (codeAny_builtin entry_len ?_)
    rw [Around.under_plainId plain_len _]
    exact wpAny_mono (dq_len_body (Q := fun r s' => r = .int 0 (s.toks + 1) ∧ Q false s') d ⟨rfl, h⟩)
      (fun fin s' h' => by obtain ⟨r, rfl, hq⟩ := h'; exact hq) fun _ _ e => e
  unfold truthy
  first
    | refine wpAny_bind (wpAny_callSpecial?_none (name := Str.ofString "__bool__") d.typeIs noBool_dq ?_)
    | refine wpAny_bind (wpAny_pure (wpAny_bind (wpAny_callSpecial?_none (name := Str.ofString "__bool__") d.typeIs noBool_dq ?_)))
  first
    | refine wpAny_bind (wpAny_specialOf (name := Str.ofString "__len__") d.typeIs slot_dq_len.lookup ?_)
    | refine wpAny_bind (wpAny_pure (wpAny_bind (wpAny_specialOf (name := Str.ofString "__len__") d.typeIs slot_dq_len.lookup ?_)))
  first
    | exact wpAny_bind (wpAny_mono key (fun r s' h' => by obtain ⟨rfl, hq⟩ := h'; exact wpAny_pure hq) fun _ _ e => e)
    | exact wpAny_bind (wpAny_pure (wpAny_bind (wpAny_mono key (fun r s' h' => by obtain ⟨rfl, hq⟩ := h'; exact wpAny_pure hq) fun _ _ e => e)))
end

section
variable {w : World} {A : Around} {s : Shared} {p : Program} {loose : List Str} {mg mb : Str → Option Value} {h₀ : Heap} {L : Addr} {m : Str → Option Value} {C : LC} {st : Value} {ln pos : Int} {lt tt pt sk u : Tok} {tok : Str}
theorem k_get_token {out : List Nat} {Q E : Value → Shared → Prop} (hA : C.Apart) (F : Fr h₀ L s.heap m) (N : News h₀ L s.heap (LX w C (.str (Str.ofString " ") sk) ln lt (Str.ofString "") tt 0 pt)) (X₀ : (Mine.Ho.frag w.params).In h₀) (T₀ : TopRead p loose mg mb h₀) (D1 : DqAt h₀ C.pb) (D2 : DqAt h₀ C.fs) (hd : A.depth < 900)
    (hb : C.buf.length < 1000000) (hl : Lx .start C.buf.cps.toList out) (ho : (⟨out.toArray⟩ : Str).length < 1000000)
    (h : ∀ h' tk ln lt t' tt' pt', Fr h₀ L h' m → News h₀ L h' (LX w C .none ln lt (Str.ofString "") tt' (C.buf.length : Int) pt') → Q (.str ⟨out.toArray⟩ t') { s with heap := h', toks := tk }) :
    wpAny (model PG w) A (call (.ref 712) [.ref C.x]) Q E s := by
  k_with_none
  k_with "enterH" => (k_dflt (case k1 => k_asm); (case k2 => k_asm); (case k3 => assumption);  (case k4 => k_is); (case k5 => k_is); (case k7 => first | exact BindsTo.of_eq rfl | exact binds_K (by assumption) rfl (by k_is) rfl rfl rfl); (case k8 => exact locs rfl); (case c1 => exact rfl); (case c2 => exact rfl); (case c3 => exact rfl); (case c4 => decide))
  k_with "truthy ref" => (refine' truthy_dq ?kd ?_; (case kd => first | exact DqAt.keeps (by assumption) (Fr.keep (by assumption))))
  k_with "call ref" => ((with_reducible show wpAny _ _ (call (Value.ref 719) _) _ _ _); refine' k_read_token ?k0 ?k1 ?k2 ?k3 ?k4 ?k5 ?k6 ?k7 ?k8 ?_; (case k0 => assumption); (case k1 => k_asm); (case k2 => k_asm); (case k3 => k_asm); (case k4 => k_asm); (case k5 => show _ + 1 < _; omega); (case k6 => assumption); (case k7 => assumption); (case k8 => assumption); intro h' tk' ln' lt' t' tt' pt' F' N'; (try k_sweep))
  have k₀ := F.keep
  refine' call_fnH (news := LX w C (.str (Str.ofString " ") sk) ln lt (Str.ofString "") tt 0 pt) (binds := [(Str.ofString "self", .ref C.x)]) ?k1 ?k2 ?k3 (n0_of N) ?k4 ?k5 ?k6 ?k7 ?k8 ?_ ?c1 ?c2 ?c3 ?c4
  walk_at "enterH"
  case k6 => exact Nat.lt_trans hd (by decide)
  replace h : ∀ h' tk ln lt t' tt' pt', KeepsBut (LXa C) s.heap h' → (∀ p ∈ LX w C .none ln lt (Str.ofString "") tt' (C.buf.length : Int) pt', h'.get? p.1 = some p.2) → Q (.str ⟨out.toArray⟩ t') { s with heap := h', toks := tk } :=
    fun h' tk ln lt t' tt' pt' kb O => let ⟨a, b⟩ := lx_back F N kb O; h h' tk ln lt t' tt' pt' a b
  have kg : ∀ g, KeepsBut (LXa C) s.heap g → Keeps h₀ g := fun g kb b o e => kb b o (fun q => by
    obtain ⟨p, hp, rfl⟩ := List.mem_map.mp (show b ∈ (LX w C (.str (Str.ofString " ") sk) ln lt (Str.ofString "") tt 0 pt).map (·.1) from q)
    rw [(N p hp).2.2] at e; cases e) (k₀ b o e)
  obtain ⟨a1, a2, a3, a4, a5, a6⟩ := id hA
  clear F N X₀ T₀ k₀
  intro g L' h₁ tk kb X T F N lt'
  k_fold
  replace D1 := D1.keeps (kg g kb)
  replace D2 := D2.keeps (kg g kb)
  clear kg
  k_lt lt'
  k_steps
  all_goals exact h _ _ _ _ _ _ _ (keepsBut_end kb (by assumption)) (fun p hp => (‹News g L' _ _› p hp).1)
theorem k_get_token0 {Q E : Value → Shared → Prop} (hA : C.Apart) (F : Fr h₀ L s.heap m) (N : News h₀ L s.heap (LX w C .none ln lt (Str.ofString "") tt (C.buf.length : Int) pt)) (X₀ : (Mine.Ho.frag w.params).In h₀) (T₀ : TopRead p loose mg mb h₀) (D1 : DqAt h₀ C.pb) (D2 : DqAt h₀ C.fs) (hd : A.depth < 900)
    (hb : C.buf.length < 1000000) 
    (h : ∀ h' tk tt', Fr h₀ L h' m → News h₀ L h' (LX w C .none ln lt (Str.ofString "") tt' (C.buf.length : Int) pt) → Q .none { s with heap := h', toks := tk }) :
    wpAny (model PG w) A (call (.ref 712) [.ref C.x]) Q E s := by
  k_with "call ref" => ((with_reducible show wpAny _ _ (call (Value.ref 719) _) _ _ _); refine' k_read_token0 ?k0 ?k1 ?k2 ?k3 ?k4 ?k5 ?k6 ?_; (case k0 => assumption); (case k1 => k_asm); (case k2 => k_asm); (case k3 => k_asm); (case k4 => k_asm); (case k5 => show _ + 1 < _; omega); (case k6 => assumption); intro h' tk' tt' F' N'; (try k_sweep))
  have k₀ := F.keep
  refine' call_fnH (news := LX w C .none ln lt (Str.ofString "") tt (C.buf.length : Int) pt) (binds := [(Str.ofString "self", .ref C.x)]) ?k1 ?k2 ?k3 (n0_of N) ?k4 ?k5 ?k6 ?k7 ?k8 ?_ ?c1 ?c2 ?c3 ?c4
  walk_at "enterH"
  case k6 => exact Nat.lt_trans hd (by decide)
  replace h : ∀ h' tk tt', KeepsBut (LXa C) s.heap h' → (∀ p ∈ LX w C .none ln lt (Str.ofString "") tt' (C.buf.length : Int) pt, h'.get? p.1 = some p.2) → Q .none { s with heap := h', toks := tk } :=
    fun h' tk tt' kb O => let ⟨a, b⟩ := lx_back F N kb O; h h' tk tt' a b
  have kg : ∀ g, KeepsBut (LXa C) s.heap g → Keeps h₀ g := fun g kb b o e => kb b o (fun q => by
    obtain ⟨p, hp, rfl⟩ := List.mem_map.mp (show b ∈ (LX w C .none ln lt (Str.ofString "") tt (C.buf.length : Int) pt).map (·.1) from q)
    rw [(N p hp).2.2] at e; cases e) (k₀ b o e)
  obtain ⟨a1, a2, a3, a4, a5, a6⟩ := id hA
  clear F N X₀ T₀ k₀
  intro g L' h₁ tk kb X T F N lt'
  k_fold
  replace D1 := D1.keeps (kg g kb)
  replace D2 := D2.keeps (kg g kb)
  clear kg
  k_lt lt'
  k_steps
  all_goals exact h _ _ _ (keepsBut_end kb (by assumption)) (fun p hp => (‹News g L' _ _› p hp).1)
end
end Mine
-- part Nx
set_option maxHeartbeats 8000000
namespace Mine
open PySem PySem.W PySem.Calls PyProof.Rows
section
variable {w : World} {A : Around} {s : Shared} {p : Program} {loose : List Str} {mg mb : Str → Option Value} {h₀ : Heap} {L : Addr} {m : Str → Option Value} {C : LC} {st : Value} {ln pos : Int} {lt tt pt sk u : Tok} {tok : Str}
theorem kb_base {news : List (Addr × Obj)} {l : List Addr} {h g : Heap} (hl : news.map (·.1) = l) (N₀ : ∀ p ∈ news, h.get? p.1 = some p.2 ∧ h₀.get? p.1 = none) (k₀ : Keeps h₀ h) (kb : KeepsBut l h g) : Keeps h₀ g := fun b o e => kb b o (fun q => by
    rw [← hl] at q
    obtain ⟨p, hp, rfl⟩ := List.mem_map.mp q
    rw [(N₀ p hp).2] at e; cases e) (k₀ b o e)
/-- the first word -/
theorem next_word {out : List Nat} {R : Result → Shared → Prop} (hA : C.Apart) (X₀ : (Mine.Ho.frag w.params).In h₀) (T₀ : TopRead p loose mg mb h₀) (k₀ : Keeps h₀ s.heap)
    (N₀ : ∀ p ∈ LX w C (.str (Str.ofString " ") sk) ln lt (Str.ofString "") tt 0 pt, s.heap.get? p.1 = some p.2 ∧ h₀.get? p.1 = none) (D1 : DqAt h₀ C.pb) (D2 : DqAt h₀ C.fs) (hd : A.depth < 890)
    (hb : C.buf.length < 1000000) (hl : Lx .start C.buf.cps.toList out) (ho : (⟨out.toArray⟩ : Str).length < 1000000)
    (h : ∀ h' tk ln lt t' tt' pt', KeepsBut (LXa C) s.heap h' → (∀ p ∈ LX w C .none ln lt (Str.ofString "") tt' (C.buf.length : Int) pt', h'.get? p.1 = some p.2) → R (.ok (.ret (.str ⟨out.toArray⟩ t'))) { s with heap := h', toks := tk }) :
    codeAny (model PG w) A (.call (.ref 748) ⟨[.ref C.x], []⟩) R s := by
  k_with_none
  k_with "enterH" => (k_dflt (case k1 => k_asm); (case k2 => k_asm); (case k3 => assumption);  (case k4 => k_is); (case k5 => k_is); (case k7 => first | exact BindsTo.of_eq rfl | exact binds_K (by assumption) rfl (by k_is) rfl rfl rfl); (case k8 => exact locs rfl); (case c1 => exact rfl); (case c2 => exact rfl); (case c3 => exact rfl); (case c4 => decide))
  k_with "call ref" => ((with_reducible show wpAny _ _ (call (Value.ref 712) _) _ _ _); refine' k_get_token ?k0 ?k1 ?k2 ?k3 ?k4 ?d1 ?d2 ?k5 ?k6 ?k7 ?k8 ?_; (case k0 => assumption); (case k1 => k_asm); (case k2 => k_asm); (case k3 => k_asm); (case k4 => k_asm); (case d1 => assumption); (case d2 => assumption); (case k5 => show _ + 1 < _; omega); (case k6 => assumption); (case k7 => assumption); (case k8 => assumption); intro h' tk' ln' lt' t' tt' pt' F' N'; (try k_sweep))
  refine' code_fnH (news := LX w C (.str (Str.ofString " ") sk) ln lt (Str.ofString "") tt 0 pt) (binds := [(Str.ofString "self", .ref C.x)]) ?k1 ?k2 ?k3 N₀ ?k4 ?k5 ?k6 ?k7 ?k8 ?_ ?c1 ?c2 ?c3 ?c4
  walk_at "enterH"
  case k6 => exact Nat.lt_trans hd (by decide)
  obtain ⟨a1, a2, a3, a4, a5, a6⟩ := id hA
  have kg := fun g => kb_base (g := g) (l := LXa C) rfl N₀ k₀
  clear X₀ T₀ k₀ N₀
  intro g L' h₁ tk kb X T F N lt'
  k_fold
  replace D1 := D1.keeps (kg g kb)
  replace D2 := D2.keeps (kg g kb)
  clear kg
  k_lt lt'
  k_steps
  all_goals exact h _ _ _ _ _ _ _ (keepsBut_end kb (by assumption)) (fun p hp => (‹News g L' _ _› p hp).1)

/-- the frames' dicts -/
abbrev frA (l : List Env) : List Addr := l.filterMap (fun v : Env => v.frame)
theorem funFrames_of {h base : Heap} : ∀ {l : List Env}, (∀ env ∈ l, env.scope.kind ≠ .module ∧ ∃ Lf o, env.frame = some Lf ∧ base.get? Lf = none ∧ h.get? Lf = some o ∧ (∀ vs, o.data ≠ .fields vs)) → h.FunFrames base l
  | [], _ => trivial
  | env :: l, H => ⟨(H env (.head _)).1, (H env (.head _)).2, funFrames_of fun e he => H e (.tail _ he)⟩
theorem leave_stop {M : Model} {Q : Unit → Shared → Prop} {E : Value → Shared → Prop} {frs : List Env} {env : Env} {L' e : Addr} {hx g : Heap} {mx : Str → Option Value} (hfr : A.frames = some frs)
    (FF : ∀ env ∈ frs, env.scope.kind ≠ .module ∧ ∃ Lf o, env.frame = some Lf ∧ g.get? Lf = some o ∧ (∀ vs, o.data ≠ .fields vs)) (hk : env.scope.kind ≠ .module) (hf : env.frame = some L')
    (F : Fr g L' hx mx) (x : Heap.MadeExc hx s.heap e "StopIteration" [])
    (hQ : ∀ h', (∃ o, h'.get? e = some o ∧ o.cls = .type "StopIteration") → KeepsBut (L' :: frA frs) hx h' → hx.UpToSlots h' → Q () { s with heap := h' }) :
    wpAny M (A.deeper env) (leaving env (.ref e)) Q E s := by
  k_with "call ref" => ((with_reducible show wpAny _ _ (call (Value.ref 712) _) _ _ _); refine' k_get_token0 ?k0 ?k1 ?k2 ?k3 ?k4 ?d1 ?d2 ?k5 ?k6 ?_; (case k0 => assumption); (case k1 => k_asm); (case k2 => k_asm); (case k3 => k_asm); (case k4 => k_asm); (case d1 => assumption); (case d2 => assumption); (case k5 => show _ + 1 < _; omega); (case k6 => assumption); intro h' tk' tt' F' N'; (try k_sweep))
  k_with "exec Raise some none" => (k_here; (with_reducible rename Fr _ _ _ _ => kF); k_dflt (refine' owsi_raiseC ?hh ?hx ?_; (case hh => assumption); (case hx => (refine' name_B kF ?k1 ?k2 ?k3 ?k4 ?k5 ?_; (case k1 => k_asm); (case k2 => k_asm); (case k3 => k_is); (case k4 => boot_by_name); (case k5 => decide); exact ⟨rfl, rfl⟩))))
  obtain ⟨t, he, _, _⟩ := x.there
  obtain ⟨oL, es, ep, hL, hLd, _⟩ := F.ns
  have hhid : ∀ b ∈ L' :: frA frs, (hideAll hx (L' :: frA frs)).get? b = none := fun b hb => hideAll_none _ hb
  have hst : ∀ b o, (hideAll hx (L' :: frA frs)).get? b = some o → s.heap.get? b = some o := fun b o q => x.keeps b o (of_hideAll _ q)
  refine wpAny_leaving_firstW (base := hideAll hx (L' :: frA frs)) (outer := frs) (by show Option.map _ A.frames = _; rw [hfr]; rfl) (funFrames_of ?_) hf he hst ?_ rfl rfl rfl fun h' hl => ?_
  · intro v hv
    rcases List.mem_cons.mp hv with rfl | hv
    · exact ⟨hk, L', oL, hf, hhid _ (.head _), x.keeps _ _ hL, fun vs q => by rw [hLd] at q; cases q⟩
    · obtain ⟨q1, Lf, o, q2, q3, q4⟩ := FF v hv
      exact ⟨q1, Lf, o, q2, hhid _ (.tail _ (List.mem_filterMap.mpr ⟨v, hv, q2⟩)), x.keeps _ _ (F.keep _ _ q3), q4⟩
  · cases q : (hideAll hx (L' :: frA frs)).get? e with
    | none => rfl
    | some o => have := of_hideAll _ q; rw [x.new] at this; cases this
  · obtain ⟨l1, l2, ⟨oe, vs, T, oT, ts, t1, t2, _⟩, l4⟩ := hl
    exact hQ h' ⟨oe, t1, t2.1⟩ (fun b o hb q => l1 b o (hideAll_get _ q hb)) fun b o q hd => l4 b o (x.keeps b o q) hd
/-- the end: StopIteration -/
theorem next_stop {frs : List Env} {R : Result → Shared → Prop} (hA : C.Apart) (X₀ : (Mine.Ho.frag w.params).In h₀) (T₀ : TopRead p loose mg mb h₀) (k₀ : Keeps h₀ s.heap)
    (N₀ : ∀ p ∈ LX w C .none ln lt (Str.ofString "") tt (C.buf.length : Int) pt, s.heap.get? p.1 = some p.2 ∧ h₀.get? p.1 = none) (D1 : DqAt h₀ C.pb) (D2 : DqAt h₀ C.fs) (hd : A.depth < 890)
    (hb : C.buf.length < 1000000) (hfr : A.frames = some frs) (hh : A.handled = none)
    (FF : ∀ env ∈ frs, env.scope.kind ≠ .module ∧ ∃ Lf o, env.frame = some Lf ∧ s.heap.get? Lf = some o ∧ (∀ vs, o.data ≠ .fields vs) ∧ Lf ∉ LXa C)
    (h : ∀ h' tk e tt', (∃ o, h'.get? e = some o ∧ o.cls = .type "StopIteration") → KeepsBut (LXa C ++ frA frs) s.heap h' → (∀ p ∈ LX w C .none ln lt (Str.ofString "") tt' (C.buf.length : Int) pt, h'.get? p.1 = some p.2) →
      (∀ b o, b ∉ LXa C → s.heap.get? b = some o → (∀ vs, o.data ≠ .fields vs) → ∃ sl, h'.get? b = some { o with slots := sl }) → R (.error (.ref e)) { s with heap := h', toks := tk }) :
    codeAny (model PG w) A (.call (.ref 748) ⟨[.ref C.x], []⟩) R s := by
  refine' code_fnE (news := LX w C .none ln lt (Str.ofString "") tt (C.buf.length : Int) pt) (binds := [(Str.ofString "self", .ref C.x)]) ?k1 ?k2 ?k3 N₀ ?k4 ?k5 ?k6 ?k7 ?k8 ?_ ?c1 ?c2 ?c3 ?c4
  walk_at "enterH"
  case k6 => exact Nat.lt_trans hd (by decide)
  obtain ⟨a1, a2, a3, a4, a5, a6⟩ := id hA
  have kg := fun g => kb_base (g := g) (l := LXa C) rfl N₀ k₀
  clear X₀ T₀ k₀ N₀
  intro g L' h₁ tk kb X T F N lt' eL
  k_fold
  replace D1 := D1.keeps (kg g kb)
  replace D2 := D2.keeps (kg g kb)
  clear kg
  k_lt lt'
  k_steps
  rename Fr g L' _ _ => F1
  rename News g L' _ _ => N1
  refine leave_stop hfr (fun env he => ?_) (by intro q; cases q) rfl F1 (by assumption) fun h' hE hK hS => ?_
  · obtain ⟨q1, Lf, o, q2, q3, q4, q5⟩ := FF env he
    exact ⟨q1, Lf, o, q2, kb Lf o q5 q3, q4⟩
  · have hLX : ∀ p ∈ LX w C .none ln lt (Str.ofString "") _ (C.buf.length : Int) pt, h'.get? p.1 = some p.2 := fun p hp => by
      refine hK _ _ (fun q => ?_) (N1 p hp).1
      rcases List.mem_cons.mp q with q | q
      · exact (N1 p hp).2.1 q
      · obtain ⟨env, he, hf⟩ := List.mem_filterMap.mp q
        obtain ⟨_, Lf, o, q2, _, _, q5⟩ := FF env he
        rw [q2] at hf
        refine q5 ((Option.some.inj hf : Lf = p.1) ▸ ?_)
        exact List.mem_map_of_mem (f := (·.1)) hp
    refine h h' _ _ _ hE (fun b o hb q => ?_) hLX (fun b o hb q hd => ?_)
    · have hb1 : b ∉ LXa C := fun z => hb (List.mem_append.mpr (.inl z))
      refine hK b o (fun z => ?_) (F1.keep _ _ (kb b o hb1 q))
      rcases List.mem_cons.mp z with z | z
      · exact absurd (Heap.lt_size q) (by rw [z, eL]; exact Nat.lt_irrefl _)
      · exact hb (List.mem_append.mpr (.inr z))
    · exact hS b o (F1.keep _ _ (kb b o hb q)) hd
end
end Mine
-- part Ll
set_option maxHeartbeats 8000000
namespace Mine
open PySem PySem.W PySem.Calls PyProof.Rows
section
variable {w : World} {A : Around} {s : Shared} {p : Program} {loose : List Str} {mg mb : Str → Option Value} {h₀ : Heap} {L : Addr} {m : Str → Option Value} {C : LC} {st : Value} {ln pos : Int} {lt tt pt sk u : Tok} {tok : Str}

/-- a turn of pyNext upon the lexer -/
theorem pyNext_own {Q : Option Value → Shared → Prop} {E : Value → Shared → Prop} {od : Option Obj} {ox : Obj} (X : (Mine.Ho.frag w.params).In s.heap) (I : InstAt s.heap C.x ox 751 od)
    (h : codeAny (model PG w) A (.call (.ref 748) ⟨[.ref C.x], []⟩) (fun r s' => match r with | .ok (.ret v) => Q (some v) s' | .ok _ => False | .error e => OwitStop (model PG w) A Q E e s') s) : wpAny (model PG w) A (pyNext (.ref C.x)) Q E s := by
  have hs : findIn (Mine.Ho.frag w.params) (.ref 751) "__next__" = some (some (.ref 748)) := by k_is
  have hf : isFn (Mine.Ho.frag w.params) (.ref 748) = true := by k_is
  unfold pyNext
  refine wpAny_bind (wpAny_attempt (special_fn (name := "__next__") (args := []) X I hs (beq_iff_eq.mp hf) (wpAny_mono (wpAny_call (Q := fun v s' => Q (some v) s') (E := OwitStop (model PG w) A Q E) h) (fun v s' hq => ?_) (fun e s' he => ?_))))
  · exact wpAny_pure hq
  · refine wpAny_bind (wpAny_mono he (fun b s₂ hb => ?_) fun _ _ z => z)
    cases b with
    | true => exact wpAny_pure hb
    | false => exact wpAny_throw hb
theorem pyIter_own {Q : Value → Shared → Prop} {E : Value → Shared → Prop} {od : Option Obj} {ox : Obj} (X : (Mine.Ho.frag w.params).In s.heap) (I : InstAt s.heap C.x ox 751 od)
    (h : wpAny (model PG w) A (call (.ref 741) [.ref C.x]) (OwitIt (model PG w) A Q E) E s) : wpAny (model PG w) A (pyIter (.ref C.x)) Q E s := by
  have hs : findIn (Mine.Ho.frag w.params) (.ref 751) "__iter__" = some (some (.ref 741)) := by k_is
  have hf : isFn (Mine.Ho.frag w.params) (.ref 741) = true := by k_is
  have fin : wpAny (model PG w) A (call (.ref 741) [.ref C.x] >>= fun v => pure (some v)) (fun r s' => ∃ v, r = some v ∧ OwitIt (model PG w) A Q E v s') E s :=
    wpAny_bind (wpAny_mono h (fun v s' h' => wpAny_pure ⟨v, rfl, h'⟩) fun _ _ z => z)
  have one : ∀ refuse : Sem Value, wpAny (model PG w) A (callSpecialIfBoundUnlessNone? (.ref C.x) "__iter__" refuse) (fun r s' => ∃ v, r = some v ∧ OwitIt (model PG w) A Q E v s') E s := by
    intro refuse
    simp only [callSpecialIfBoundUnlessNone?, bindSpecialIfBound?]
    refine wpAny_holding (wpAny_bind (wpAny_bind (wpAny_bind (I.type.here ((looks_findIn X hs).here ?_)))))
    refine wpAny_bind (wpAny_askSetting (wpAny_ite ?_))
    have fin2 : wpAny (model PG w) A (if (Value.ref 741 == Value.none) = true then (refuse >>= fun v => pure (some v)) else (call (.ref 741) [.ref C.x] >>= fun v => pure (some v))) (fun r s' => ∃ v, r = some v ∧ OwitIt (model PG w) A Q E v s') E s := by
      rw [if_neg (show ¬ ((Value.ref 741 == Value.none) = true) from Bool.false_ne_true)]
      exact fin
    split
    · exact wpAny_bind ((bind_fn X _ (beq_iff_eq.mp hf)).here (wpAny_pure (by exact fin2)))
    · exact wpAny_tryCatch (wpAny_bind ((bind_fn X _ (beq_iff_eq.mp hf)).here (wpAny_pure (by exact fin2))))
  unfold pyIter
  refine wpAny_bind (wpAny_bind (I.type.here ((looks_findIn X hs).here ?_)))
  show wpAny (model PG w) A (callSpecialIfBoundUnlessNone? (.ref C.x) "__iter__" _ >>= _) Q E s
  refine wpAny_bind (wpAny_mono (one _) (fun r s' hr => ?_) fun _ _ z => z)
  obtain ⟨v, rfl, hv⟩ := hr
  refine wpAny_bind (wpAny_mono hv (fun r s₂ hr => ?_) fun _ _ z => z)
  cases r with
  | none => exact hr.elim
  | some g => exact wpAny_pure hr

/-- __iter__ gives the lexer itself -/
theorem iter_self {Q E : Value → Shared → Prop} (X : (Mine.Ho.frag w.params).In s.heap) (T : TopRead p loose mg mb s.heap) (hd : A.depth < 900)
    (h : ∀ h' tk, Keeps s.heap h' → Q (.ref C.x) { s with heap := h', toks := tk }) : wpAny (model PG w) A (call (.ref 741) [.ref C.x]) Q E s := by
  k_with_none
  k_with "enter" => (k_dflt (case k1 => k_asm); (case k2 => exact TopRead.nolimit (by k_asm)); (case k3 => k_is); (case k4 => k_is); (case k6 => first | exact BindsTo.of_eq rfl | exact binds_K (by assumption) rfl (by k_is) rfl rfl rfl); (case k7 => exact locs rfl); (case c1 => exact rfl); (case c2 => exact rfl); (case c3 => exact rfl); (case c4 => decide))
  refine' call_fn (binds := [(Str.ofString "self", .ref C.x)]) ?k1 ?k2 ?k3 ?k4 ?k5 ?k6 ?k7 ?_ ?c1 ?c2 ?c3 ?c4
  walk_at "enter"
  case k5 => exact Nat.lt_trans hd (by decide)
  intro h₁ tk F N
  k_fold
  k_steps
  exact h _ _ (Fr.keep (by assumption))

abbrev lstO (xs : Array Value) (n : Nat) : Obj := { cls := .type "list", data := .seq xs n }
theorem isSub_stop : isSubtype (.type "StopIteration") (.type "StopIteration") = pure true := by rw [isSubtype_type]; kernel_rfl
/-- one more turn: the word is appended -/
theorem loop_word {out : List Nat} {S : Addr} {n : Nat} {R : Result → Shared → Prop} (hA : C.Apart) (X₀ : (Mine.Ho.frag w.params).In h₀) (T₀ : TopRead p loose mg mb h₀) (k₀ : Keeps h₀ s.heap)
    (N₀ : ∀ p ∈ LX w C (.str (Str.ofString " ") sk) ln lt (Str.ofString "") tt 0 pt, s.heap.get? p.1 = some p.2 ∧ h₀.get? p.1 = none) (D1 : DqAt h₀ C.pb) (D2 : DqAt h₀ C.fs) (hd : A.depth < 880)
    (hb : C.buf.length < 1000000) (hl : Lx .start C.buf.cps.toList out) (ho : (⟨out.toArray⟩ : Str).length < 1000000) (hS : s.heap.get? S = some (lstO #[] n)) (hSn : S ∉ LXa C)
    (h : ∀ h' tk ln lt t' tt' pt' n', KeepsBut (S :: LXa C) s.heap h' → (∀ p ∈ LX w C .none ln lt (Str.ofString "") tt' (C.buf.length : Int) pt', h'.get? p.1 = some p.2) → h'.get? S = some (lstO #[.str ⟨out.toArray⟩ t'] n') →
      codeAny (model PG w) A (.builtin "list.extend.loop" ⟨[.ref S, .ref C.x, .none], []⟩) R { s with heap := h', toks := tk }) :
    codeAny (model PG w) A (.builtin "list.extend.loop" ⟨[.ref S, .ref C.x, .none], []⟩) R s := by
  refine codeAny_builtin F.entry_extend_loop ?_
  rw [Around.under_plainId F.plain_extend_loop _]
  show wpAny _ A.in1 (pyNext (.ref C.x) >>= _) _ _ s
  have I : InstAt s.heap C.x (instObj 751 C.dx) 751 (some (lexD w C (.str (Str.ofString " ") sk) ln lt (Str.ofString "") tt)) := ⟨(N₀ (C.x, _) (.tail _ (.tail _ (.head _)))).1, rfl, rfl, (N₀ (C.dx, _) (.head _)).1⟩
  refine wpAny_bind (pyNext_own (X₀.keeps k₀) I (next_word hA X₀ T₀ k₀ N₀ D1 D2 (Nat.lt_trans hd (by decide)) hb hl ho fun h' tk ln lt t' tt' pt' kb O => ?_))
  have hS' : h'.get? S = some (lstO #[] n) := kb _ _ hSn hS
  show wpAny _ A.in1 (updateSeq S (·.push _) >>= _) _ _ _
  refine wpAny_bind (wpAny_updateSeq hS' rfl (wpAny_pure ⟨plainId_quiet F.plain_extend_loop _, ?_⟩) (by show (0 : Nat) ≤ _; exact Nat.zero_le _) (by show (1 : Nat) ≤ sizeLine + 1; exact Nat.succ_le_succ (Nat.zero_le _)))
  refine h _ tk ln lt t' tt' pt' (n + 1) (fun b o hb q => ?_) (fun p hp => ?_) ?_
  · have hb2 : b ∉ LXa C := fun z => hb (.tail _ z)
    exact (Heap.get?_update_other _ _ (fun e : S = b => hb (e ▸ .head _))).trans (kb b o hb2 q)
  · refine (Heap.get?_update_other _ _ (fun e : S = p.1 => hSn ?_)).trans (O p hp)
    rw [e]
    exact List.mem_map_of_mem (f := (·.1)) hp
  · exact Heap.get?_update_self _ hS' rfl
/-- the last turn -/
theorem loop_stop {frs : List Env} {S : Addr} {R : Result → Shared → Prop} (hA : C.Apart) (X₀ : (Mine.Ho.frag w.params).In h₀) (T₀ : TopRead p loose mg mb h₀) (k₀ : Keeps h₀ s.heap)
    (N₀ : ∀ p ∈ LX w C .none ln lt (Str.ofString "") tt (C.buf.length : Int) pt, s.heap.get? p.1 = some p.2 ∧ h₀.get? p.1 = none) (D1 : DqAt h₀ C.pb) (D2 : DqAt h₀ C.fs) (hd : A.depth < 880)
    (hb : C.buf.length < 1000000) (hfr : A.frames = some frs) (hh : A.handled = none)
    (FF : ∀ env ∈ frs, env.scope.kind ≠ .module ∧ ∃ Lf o, env.frame = some Lf ∧ s.heap.get? Lf = some o ∧ (∀ vs, o.data ≠ .fields vs) ∧ Lf ∉ LXa C)
    (h : ∀ h' tk, KeepsBut (LXa C ++ frA frs) s.heap h' →
      (∀ b o, b ∉ LXa C → s.heap.get? b = some o → (∀ vs, o.data ≠ .fields vs) → ∃ sl, h'.get? b = some { o with slots := sl }) → R (.ok (.ret .none)) { s with heap := h', toks := tk }) :
    codeAny (model PG w) A (.builtin "list.extend.loop" ⟨[.ref S, .ref C.x, .none], []⟩) R s := by
  refine codeAny_builtin F.entry_extend_loop ?_
  rw [Around.under_plainId F.plain_extend_loop _]
  show wpAny _ A.in1 (pyNext (.ref C.x) >>= _) _ _ s
  have I : InstAt s.heap C.x (instObj 751 C.dx) 751 (some (lexD w C .none ln lt (Str.ofString "") tt)) := ⟨(N₀ (C.x, _) (.tail _ (.tail _ (.head _)))).1, rfl, rfl, (N₀ (C.dx, _) (.head _)).1⟩
  refine wpAny_bind (pyNext_own (X₀.keeps k₀) I (next_stop (A := A.in1) hA X₀ T₀ k₀ N₀ D1 D2 (Nat.lt_trans hd (by decide)) hb hfr hh FF fun h' tk e tt' hE kb O hU => ?_))
  obtain ⟨o, ho, hc⟩ := hE
  show OwitStop _ _ _ _ _ _
  unfold OwitStop
  refine wpAny_isInstance (T := "StopIteration") ⟨o, ho, hc⟩ isSub_stop ?_
  rw [if_pos rfl]
  exact wpAny_pure (h h' tk kb hU)

theorem list_lex {out : List Nat} {frs : List Env} {Q E : Value → Shared → Prop} (hA : C.Apart) (X₀ : (Mine.Ho.frag w.params).In h₀) (T₀ : TopRead p loose mg mb h₀) (k₀ : Keeps h₀ s.heap)
    (N₀ : ∀ p ∈ LX w C (.str (Str.ofString " ") sk) ln lt (Str.ofString "") tt 0 pt, s.heap.get? p.1 = some p.2 ∧ h₀.get? p.1 = none) (D1 : DqAt h₀ C.pb) (D2 : DqAt h₀ C.fs) (hd : A.depth < 880)
    (hb : C.buf.length < 1000000) (hl : Lx .start C.buf.cps.toList out) (ho : (⟨out.toArray⟩ : Str).length < 1000000) (hfr : A.frames = some frs) (hh : A.handled = none)
    (FF : ∀ env ∈ frs, env.scope.kind ≠ .module ∧ ∃ Lf o, env.frame = some Lf ∧ s.heap.get? Lf = some o ∧ (∀ vs, o.data ≠ .fields vs) ∧ Lf ∉ LXa C)
    (h : ∀ h' tk t' S n, s.heap.get? S = none → h'.get? S = some (lstO #[.str ⟨out.toArray⟩ t'] n) → KeepsBut (LXa C ++ frA frs) s.heap h' →
      (∀ b o, b ∉ LXa C → s.heap.get? b = some o → (∀ vs, o.data ≠ .fields vs) → ∃ sl, h'.get? b = some { o with slots := sl }) → Q (.ref S) { s with heap := h', toks := tk }) :
    wpAny (model PG w) A (call (.type "list") [.ref C.x]) Q E s := by
  have hlx : ∀ a ∈ LXa C, a < s.heap.objs.size := fun a ha => by
    obtain ⟨p, hp, rfl⟩ := List.mem_map.mp (show a ∈ (LX w C (.str (Str.ofString " ") sk) ln lt (Str.ofString "") tt 0 pt).map (·.1) from ha)
    exact Heap.lt_size (N₀ p hp).1
  have hSn : s.heap.objs.size ∉ LXa C := fun q => Nat.lt_irrefl _ (hlx _ q)
  refine callType_codes (Q₁ := fun obj s₁ => obj = .ref s.heap.objs.size ∧ s₁ = { s with heap := s.heap.push { cls := .type "list", data := .seq #[] } }) F.called_list (F.typeCall_list_1 _) F.entry_list_init
    (code_list_new _ ⟨rfl, rfl⟩) fun obj s₁ h₁ => ?_
  obtain ⟨rfl, rfl⟩ := h₁
  have hS : (s.heap.push { cls := .type "list", data := .seq #[] }).get? s.heap.objs.size = some { cls := .type "list", data := .seq #[] } := Heap.get?_push_size _ rfl
  refine ⟨⟨_, hS, rfl⟩, F.args_list_init_2 _ _, ?_⟩
  generalize hSS : s.heap.objs.size = S at hS hSn ⊢
  have kp : Keeps s.heap (s.heap.push { cls := .type "list", data := .seq #[] }) := fun b o e => Heap.get?_push_of_some _ e
  have hne : ∀ b o, s.heap.get? b = some o → S ≠ b := fun b o e q => by
    have := Heap.lt_size e
    rw [← q, ← hSS] at this
    exact Nat.lt_irrefl _ this
  show wpAny _ _ (do let old ← Builtin.List.listItems (.ref S); Builtin.List.listUpdate (.ref S) (fun _ => #[]); letGo old.toList.reverse; Builtin.List.listExtendWith (.ref S) (.ref C.x) .none) _ _ _
  refine wpAny_bind ?_
  unfold Builtin.List.listItems
  refine wpAny_bind (wpAny_seqItems hS rfl (wpAny_pure ?_))
  show wpAny _ _ (updateSeq S (fun _ => #[]) >>= fun _ => letGo (#[] : Array Value).toList.reverse >>= fun _ => Builtin.List.listExtendWith (.ref S) (.ref C.x) .none) _ _ _
  refine wpAny_bind (wpAny_updateSeq hS rfl ?_)
  have hS₂ := Heap.get?_update_self (Obj.mapSeq (fun _ => (#[] : Array Value))) hS rfl
  have k2 : Keeps s.heap ((s.heap.push { cls := .type "list", data := .seq #[] }).update S (Obj.mapSeq (fun _ => (#[] : Array Value)))) :=
    fun b o e => (Heap.get?_update_other _ _ (hne b o e)).trans (kp b o e)
  generalize (s.heap.push { cls := .type "list", data := .seq #[] }).update S (Obj.mapSeq (fun _ => (#[] : Array Value))) = H2 at hS₂ k2 ⊢
  refine wpAny_bind (wpAny_letGo ?_)
  unfold Builtin.List.listExtendWith
  have gx : H2.get? C.x = some (instObj 751 C.dx) := k2 _ _ (N₀ (C.x, _) (.tail _ (.tail _ (.head _)))).1
  have gd : H2.get? C.dx = some (lexD w C (.str (Str.ofString " ") sk) ln lt (Str.ofString "") tt) := k2 _ _ (N₀ (C.dx, _) (.head _)).1
  have I : InstAt H2 C.x (instObj 751 C.dx) 751 (some (lexD w C (.str (Str.ofString " ") sk) ln lt (Str.ofString "") tt)) := ⟨gx, rfl, rfl, gd⟩
  have XH := X₀.keeps fun b o e => k2 b o (k₀ b o e)
  have TH := T₀.keeps fun b o e => k2 b o (k₀ b o e)
  refine wpAny_bind (I.type.here ?_)
  have hSx : S ≠ C.x := hne _ _ (N₀ (C.x, _) (.tail _ (.tail _ (.head _)))).1
  have e1 : Builtin.List.listSameRef (.ref S) (.ref C.x) = false := by simp [Builtin.List.listSameRef, hSx]
  have e2 : (Value.ref 751 == Value.type "list") = false := by decide
  have e3 : (Value.ref 751 == Value.type "tuple") = false := by decide
  simp only [e1, e2, e3, Bool.or_false, Bool.false_eq_true, if_false]
  refine wpAny_bind (pyIter_own XH I (iter_self XH TH (Nat.lt_trans hd (by decide)) fun H3 tk3 k3 => ?_))
  have I3 : InstAt H3 C.x (instObj 751 C.dx) 751 (some (lexD w C (.str (Str.ofString " ") sk) ln lt (Str.ofString "") tt)) := ⟨k3 _ _ gx, rfl, rfl, k3 _ _ gd⟩
  have X3 := XH.keeps k3
  have fN : findIn (Mine.Ho.frag w.params) (.ref 751) "__next__" = some (some (.ref 748)) := by k_is
  have fL : findIn (Mine.Ho.frag w.params) (.ref 751) "__len__" = some none := by k_is
  have fH : findIn (Mine.Ho.frag w.params) (.ref 751) "__length_hint__" = some none := by k_is
  unfold OwitIt
  refine wpAny_bind (I3.type.here ((looks_findIn X3 fN).here ?_))
  show wpAny _ _ _ _ _ _
  refine wpAny_bind (wpAny_holding ?_)
  unfold Builtin.List.listLengthHint
  refine wpAny_bind (wpAny_bind (I3.type.here ((looks_findIn X3 fL).here ?_)))
  show wpAny _ _ (specialOf (Value.ref C.x) (Str.ofString "__length_hint__") >>= _) _ _ _
  refine wpAny_bind (wpAny_bind (I3.type.here ((looks_findIn X3 fH).here ?_)))
  refine wpAny_pure ?_
  show wpAny _ _ (rule "list.extend.makes-room" >>= fun _ => Builtin.List.listTouch (.ref S) >>= fun _ => again (.builtin "list.extend.loop" ⟨[.ref S, .ref C.x, .none], []⟩)) _ _ _
  refine wpAny_bind (wpAny_rule ?_)
  refine wpAny_bind ?_
  show wpAny _ _ (updateSeq S (·.push .none) >>= fun _ => updateSeq S (·.pop)) _ _ _
  have hS₃ := k3 _ _ hS₂
  refine wpAny_bind (wpAny_updateSeq hS₃ rfl ?_)
  have hS₄ := Heap.get?_update_self (Obj.mapSeq (·.push Value.none)) hS₃ rfl
  refine wpAny_updateSeq (hz := by seq_fits) hS₄ rfl ?_
  have hS₅ := Heap.get?_update_self (Obj.mapSeq (·.pop)) hS₄ rfl
  have k5 : Keeps s.heap ((H3.update S (Obj.mapSeq (·.push Value.none))).update S (Obj.mapSeq (·.pop))) :=
    fun b o e => (Heap.get?_update_other _ _ (hne b o e)).trans ((Heap.get?_update_other _ _ (hne b o e)).trans (k3 _ _ (k2 _ _ e)))
  generalize (H3.update S (Obj.mapSeq (·.push Value.none))).update S (Obj.mapSeq (·.pop)) = H5 at hS₅ k5 ⊢
  refine wpAny_pure ⟨plainId_quiet F.plain_extend_loop _, ?_⟩
  have N5 : ∀ p ∈ LX w C (.str (Str.ofString " ") sk) ln lt (Str.ofString "") tt 0 pt, H5.get? p.1 = some p.2 ∧ h₀.get? p.1 = none := fun p hp => ⟨k5 _ _ (N₀ p hp).1, (N₀ p hp).2⟩
  refine loop_word (A := A.in1) (S := S) hA X₀ T₀ (fun b o e => k5 b o (k₀ b o e)) N5 D1 D2 hd hb hl ho hS₅ hSn fun H6 tk6 ln6 lt6 t6 tt6 pt6 n6 kb6 O6 hS6 => ?_
  have k6 : ∀ b o, b ∉ LXa C → s.heap.get? b = some o → H6.get? b = some o := fun b o hb e => kb6 b o (fun q => by
    rcases List.mem_cons.mp q with q | q
    · exact hne b o e q.symm
    · exact hb q) (k5 b o e)
  have n0 : ∀ a ∈ LXa C, h₀.get? a = none := fun a ha => by
    obtain ⟨p, hp, rfl⟩ := List.mem_map.mp (show a ∈ (LX w C (.str (Str.ofString " ") sk) ln lt (Str.ofString "") tt 0 pt).map (·.1) from ha)
    exact (N₀ p hp).2
  refine loop_stop (A := A.in1) (S := S) hA X₀ T₀ (fun b o e => k6 b o (fun q => by rw [n0 b q] at e; cases e) (k₀ b o e)) (fun p hp => ⟨O6 p hp, n0 _ (List.mem_map_of_mem (f := (·.1)) hp)⟩) D1 D2 hd hb hfr hh ?_ fun H7 tk7 kb7 hU7 => ⟨rfl, ?_⟩
  · intro env he
    obtain ⟨q1, Lf, o, q2, q3, q4, q5⟩ := FF env he
    exact ⟨q1, Lf, o, q2, k6 _ _ q5 q3, q4, q5⟩
  · refine h H7 tk7 t6 S n6 ?_ ?_ ?_ ?_
    · rw [← hSS]; exact Heap.get?_none_of_le (Nat.le_refl _)
    · refine kb7 _ _ (fun q => ?_) hS6
      rcases List.mem_append.mp q with q | q
      · exact hSn q
      · obtain ⟨env, he, hf⟩ := List.mem_filterMap.mp q
        obtain ⟨_, Lf, o, q2, q3, _, _⟩ := FF env he
        rw [q2] at hf
        exact hne _ _ q3 (Option.some.inj hf).symm
    · intro b o hb e
      exact kb7 b o hb (k6 b o (fun q => hb (List.mem_append.mpr (.inl q))) e)
    · intro b o hb e hd
      exact hU7 b o hb (k6 b o hb e) hd
end
end Mine
-- part Mk
set_option maxHeartbeats 8000000
namespace Mine
open PySem PySem.W PySem.Calls PyProof.Rows

noncomputable def sioCls (w : World) : { cd : ClassData × Value × Option Addr × Array (Option Value) // (Mine.Ho.frag w.params).lookup 616 = some ⟨cd.2.1, cd.2.2.1, .cls cd.1, cd.2.2.2⟩ } := by
  refine' (fun {a b c d} (h : (Mine.Ho.frag w.params).lookup 616 = some ⟨b, c, .cls a, d⟩) => ⟨(a, b, c, d), h⟩) ?z
  case z => k_is
section
variable {w : World} {A : Around} {R : Result → Shared → Prop} {h : Heap} {g : Array GenState} {d : Drawn} {t : Nat} {os : OsState}
theorem new_sio (X : (Mine.Ho.frag w.params).In h)
    (hq : R (.ok (.ret (.ref (h.objs.size + 1)))) ⟨(h.push emptyDict).push (instObj 616 h.objs.size), g, d, t, os⟩) :
    codeAny (model PG w) A (.call (.builtin "object.__new__") ⟨[.ref 616], []⟩) R ⟨h, g, d, t, os⟩ := by
  k_with_none
  k_with "apart" => skip
  have here : Looks (model PG w) h (Bind.madeHere "object.__new__" (.ref 616)) () := Looks.of_peek X (by kernel_rfl)
  have top : Looks (model PG w) h (isSubtype (.ref 616) (.type "object")) true := looks_subIn X (by k_is)
  have typ : Looks (model PG w) h (isInstance (.ref 616) (.type "type")) true := looks_instIn X (by k_is)
  have base : Looks (model PG w) h (Bind.staticBase (.ref 616)) (.type "object") := Looks.of_peek X (by kernel_rfl)
  have made0 : Looks (model PG w) h (Bind.madeBy (.type "object")) (some "object.__new__") := Looks.of_peek X (by kernel_rfl)
  have hC := X _ _ (sioCls w).2
  have e1 : (sioCls w).1.1.abstract = false := rfl
  have e2 : (sioCls w).1.1.hasDel = false := rfl
  have F := PySem.F.objNew
  refine codeAny_call_builtin_code (Code.quiet_builtin _ F.quiet) ?_
  simp only [checkBuiltinCall, F.kind, F.split, F.row]
  have args : Bind.checkArgs "object.__new__" ⟨.hand, "object.__new__", "__new__", .cls, []⟩ ⟨[.ref 616], []⟩ = pure () := by kernel_rfl
  rw [args]
  repeat (first | simp only [bne_self_eq_false, Bool.false_eq_true, if_false] | lk)
  refine codeAny_builtin F.entry ?_
  unfold Builtin.«object.__new__»
  have fin : ∀ A', wpAny (model PG w) A' (do
      let d ← if typeHasDict (.ref 616) then some <$> alloc { cls := .type "dict", data := .dict #[] } else pure none
      ret (← newObj (.ref 616) .plain d)) (fun fin s' => match fin with | .done f => R (.ok f) s' | .again c' => c'.quiet = true ∧ codeAny (model PG w) A c' R s') (fun e s' => R (.error e) s') ⟨h, g, d, t, os⟩ := by
    intro A'
    show wpAny _ _ ((alloc emptyDict >>= fun x => pure (some x)) >>= _) _ _ _
    refine wpAny_bind (wpAny_bind (wpAny_alloc (wpAny_pure (wpAny_bind ?_))))
    show wpAny _ _ (newObjAsIs _ _ _) _ _ _
    unfold newObjAsIs classHasDel
    refine wpAny_bind (wpAny_alloc (wpAny_bind (wpAny_bind (wpAny_load (Heap.get?_push_of_some _ (Heap.get?_push_of_some _ hC)) (wpAny_pure ?_)))))
    rw [e2]
    refine wpAny_pure (wpAny_pure ?_)
    show R _ _
    rw [Heap.size_push]
    exact hq
  repeat (first | simp only [e1, Bool.false_eq_true, if_false] | exact fin _ | lk)
end

section
variable {prog : Program} {w : World} {A : Around} {s : Shared} {K : Frag} {name qual : Str} {params : Arguments} {body : List Stmt} {scope : Scope}
    {dV kV doc pm cdv ct oc : Value} {an od : Option Addr} {osl : Array (Option Value)} {f : Addr} {pos : List Value} {kw : List (Str × Value)} {binds : List (Str × Value)} {R : Result → Shared → Prop}
/-- a call whose binding makes objects (a star argument's tuple, a dict) -/
theorem code_fnA {hb : Heap} (kb : Keeps s.heap hb) (X : K.In s.heap) (hlim : s.heap.NoLimit)
    (ho : K.lookup f = some ⟨oc, od, .func (fnOf name qual params body scope dV kV doc pm an cdv ct), osl⟩) (hcd : codeIn K cdv qual = true) (hroom : A.depth < recursionLimit)
    (hbind : ∀ (M : Model) (A : Around) (E : Value → Shared → Prop) (Q : List (Str × Value) → Shared → Prop), Q binds { s with heap := hb } → wpAny M A (bindArgs (fnOf name qual params body scope dV kV doc pm an cdv ct) ⟨pos, kw⟩) Q E s) (hloc : ∀ y ∈ binds, scope.names.lookup y.1 = some .local)
    (h : ∀ h₁ tk, Keeps hb h₁ → Fr s.heap hb.objs.size h₁ (fun y => binds.reverse.lookup y) → News s.heap hb.objs.size h₁ [] →
      wpAny (model prog w) (A.deeper (envOf qual scope hb.objs.size f cdv)) (execs body (envOf qual scope hb.objs.size f cdv))
        (fun fl s' => R (.ok (.ret (match fl with | .ret v => v | _ => .none))) s') (fun _ _ => False)
        { s with heap := h₁, toks := tk })
    (hsz : s.heap.objs.size ≤ hb.objs.size) (hco : scope.isCoroutine = false) (hgen : scope.isGenerator = false) (hk : scope.kind = .function)
    (hcell : ∀ x ∈ scope.names, x.2 ≠ .cell) : codeAny (model prog w) A (.call (.ref f) ⟨pos, kw⟩) R s := by
  refine codeAny_call_function (fd := fnOf name qual params body scope dV kV doc pm an cdv ct) (body := body) hroom (X _ _ ho) rfl hco hgen rfl (codeRec_of X hcd) (hbind _ _ _ _ ?_)
  refine wpAny_newFunctionEnv hcell hloc (fun h₀ hns₀ hsb₀ => ⟨(hlim.keeps kb).fresh _ hsb₀, codeAny_func (wpAny_mono (h h₀ _ (fun b o e => ?_) ⟨hns₀, fun b o e => ?_, hsz⟩ News.nil) (fun _ _ x => x) fun _ _ x => x.elim)⟩) hk
  · exact hsb₀.extBut b o (Nat.ne_of_lt (Heap.lt_size e)) (Heap.get?_push_of_some _ e)
  · exact hsb₀.extBut b o (Nat.ne_of_lt (Heap.lt_size (kb _ _ e))) (Heap.get?_push_of_some _ (kb _ _ e))
end
section
variable {w : World} {A : Around} {s : Shared} {p : Program} {loose : List Str} {mg mb : Str → Option Value}
theorem iob_new {R : Result → Shared → Prop} {v : Str} {t : Tok} (X : (Mine.Ho.frag w.params).In s.heap) (T : TopRead p loose mg mb s.heap) (hd : A.depth < 950)
    (h : ∀ h' tk, Keeps s.heap h' → R (.ok (.ret (.ref (h'.objs.size + 1)))) { s with heap := (h'.push emptyDict).push (instObj 616 h'.objs.size), toks := tk }) :
    codeAny (model PG w) A (.call (.ref 109) ⟨[.ref 616, .str v t], []⟩) R s := by
  k_with "call builtin:object.__new__" => (refine wpAny_call (new_sio ?kx ?_); (case kx => exact Frag.In.keeps (by k_asm) (Fr.keep (by k_asm))))
  refine' code_fnA (hb := (s.heap.push { cls := .type "tuple", data := .seq #[.str v t] }).push { cls := .type "dict", data := .dict #[] }) (binds := [(Str.ofString "cls", .ref 616), (Str.ofString "args", .ref s.heap.objs.size), (Str.ofString "kwargs", .ref (s.heap.objs.size + 1))]) ?kb X T.nolimit ?k3 ?k4 ?k5 ?k6 ?k7 ?_ ?ks ?c1 ?c2 ?c3 ?c4
  case kb => exact fun b o e => Heap.get?_push_of_some _ (Heap.get?_push_of_some _ e)
  case k3 => k_is
  case k4 => k_is
  case k5 => exact Nat.lt_trans hd (by decide)
  case k6 =>
    intro M A E Q hq
    have e : (s.heap.push { cls := .type "tuple", data := .seq #[.str v t] }).objs.size = s.heap.objs.size + 1 := Heap.size_push _ _
    rw [← e] at hq
    exact fun _ _ _ => hq
  case k7 => exact locs rfl
  case ks => rw [Heap.size_push, Heap.size_push]; omega
  case c1 => rfl
  case c2 => rfl
  case c3 => rfl
  case c4 => decide
  intro h₁ tk kb F N
  k_fold
  k_steps
  exact h _ _ (Fr.keep (by assumption))

/-- what a StringIO's dict holds -/
abbrev sioE (w : World) (k1 k2 k3 t1 t2 t3 : Tok) (buf : Str) (pos : Int) : List DictEntry :=
  [⟨PyData.keyHash w.params (Str.ofString "_StringIO__newline"), .str (Str.ofString "_StringIO__newline") k1, .str (Str.ofString "\n") t1⟩,
   ⟨PyData.keyHash w.params (Str.ofString "_StringIO__buf"), .str (Str.ofString "_StringIO__buf") k2, .str buf t2⟩,
   ⟨PyData.keyHash w.params (Str.ofString "_StringIO__pos"), .str (Str.ofString "_StringIO__pos") k3, .int pos t3⟩]
theorem k_translated {h₀ : Heap} {L x dx : Addr} {m : Str → Option Value} {v b : Str} {t k1 k2 k3 t1 t2 t3 : Tok} {Q E : Value → Shared → Prop} (F : Fr h₀ L s.heap m) (N : News h₀ L s.heap [(dx, dictOf (sioE w k1 k2 k3 t1 t2 t3 b 0) 3), (x, instObj 616 dx)]) (X₀ : (Mine.Ho.frag w.params).In h₀) (T₀ : TopRead p loose mg mb h₀) (hd : A.depth < 950)
    (h : ∀ h' tk, Fr h₀ L h' m → News h₀ L h' [(dx, dictOf (sioE w k1 k2 k3 t1 t2 t3 b 0) 3), (x, instObj 616 dx)] → Q (.str v t) { s with heap := h', toks := tk }) :
    wpAny (model PG w) A (call (.ref 393) [.ref x, .str v t]) Q E s := by
  k_with "enterH" => (k_dflt (case k1 => k_asm); (case k2 => k_asm); (case k3 => assumption);  (case k4 => k_is); (case k5 => k_is); (case k7 => first | exact BindsTo.of_eq rfl | exact binds_K (by assumption) rfl (by k_is) rfl rfl rfl); (case k8 => exact locs rfl); (case c1 => exact rfl); (case c2 => exact rfl); (case c3 => exact rfl); (case c4 => decide))
  have k₀ := F.keep
  refine' call_fnH (news := [(dx, dictOf (sioE w k1 k2 k3 t1 t2 t3 b 0) 3), (x, instObj 616 dx)]) (binds := [(Str.ofString "self", .ref x), (Str.ofString "s", .str v t)]) ?k1 ?k2 ?k3 (n0_of N) ?k4 ?k5 ?k6 ?k7 ?k8 ?_ ?c1 ?c2 ?c3 ?c4
  walk_at "enterH"
  case k6 => exact Nat.lt_trans hd (by decide)
  replace h : ∀ h' tk, KeepsBut [dx, x] s.heap h' → (∀ p ∈ [(dx, dictOf (sioE w k1 k2 k3 t1 t2 t3 b 0) 3), (x, instObj 616 dx)], h'.get? p.1 = some p.2) → Q (.str v t) { s with heap := h', toks := tk } :=
    fun h' tk kb O => h h' tk (frBut F (fun q => by
      obtain ⟨p, hp, e⟩ := List.mem_map.mp (show L ∈ ([(dx, dictOf (sioE w k1 k2 k3 t1 t2 t3 b 0) 3), (x, instObj 616 dx)].map (·.1)) from q)
      exact (N p hp).2.1 e) (fun a q => by
      obtain ⟨p, hp, e⟩ := List.mem_map.mp (show a ∈ ([(dx, dictOf (sioE w k1 k2 k3 t1 t2 t3 b 0) 3), (x, instObj 616 dx)].map (·.1)) from q)
      exact e ▸ (N p hp).2.2) kb) (fun p hp => ⟨O p hp, (N p hp).2⟩)
  clear F N X₀ T₀ k₀
  intro g L' h₁ tk kb X T F N lt
  k_fold
  k_steps
  all_goals exact h _ _ (keepsBut_end kb (by assumption)) (fun p hp => (‹News g L' _ _› p hp).1)

theorem sio_init {R : Result → Shared → Prop} {h₀ : Heap} {x dx : Addr} {v : Str} {t : Tok} (X₀ : (Mine.Ho.frag w.params).In h₀) (T₀ : TopRead p loose mg mb h₀) (k₀ : Keeps h₀ s.heap) (hx : s.heap.get? x = some (instObj 616 dx)) (hdx : s.heap.get? dx = some (dictOf [] 0)) (hx0 : h₀.get? x = none) (hd0 : h₀.get? dx = none) (hne : @Ne Nat dx x) (hd : A.depth < 940)
    (h : ∀ h' tk k1 k2 k3 t1 t3, KeepsBut [dx, x] s.heap h' → h'.get? x = some (instObj 616 dx) → h'.get? dx = some (dictOf (sioE w k1 k2 k3 t1 t t3 v 0) 3) → R (.ok (.ret .none)) { s with heap := h', toks := tk }) :
    codeAny (model PG w) A (.call (.ref 386) ⟨[.ref x, .str v t], []⟩) R s := by
  k_with "call ref" => ((with_reducible show wpAny _ _ (call (Value.ref 393) _) _ _ _); refine' k_translated ?k1 ?k2 ?k3 ?k4 ?k5 ?_; (case k1 => k_asm); (case k2 => k_asm); (case k3 => k_asm); (case k4 => k_asm); (case k5 => show _ + 1 < _; omega); intro h' tk' F' N'; (try k_sweep))
  have XS := X₀.keeps k₀
  have N₀ : ∀ p ∈ [(dx, dictOf [] 0), (x, instObj 616 dx)], s.heap.get? p.1 = some p.2 ∧ h₀.get? p.1 = none :=
    List.forall_mem_cons.mpr ⟨⟨hdx, hd0⟩, List.forall_mem_cons.mpr ⟨⟨hx, hx0⟩, List.forall_mem_nil _⟩⟩
  refine' code_fnH (news := [(dx, dictOf [] 0), (x, instObj 616 dx)]) (binds := [(Str.ofString "self", .ref x), (Str.ofString "initial_value", .str v t), (Str.ofString "newline", .str (Str.ofString "\n") 922)]) ?k1 ?k2 ?k3 N₀ ?k4 ?k5 ?k6 ?k7 ?k8 ?_ ?c1 ?c2 ?c3 ?c4
  walk_at "enterH"
  case k6 => exact Nat.lt_trans hd (by decide)
  clear XS N₀ X₀ T₀ k₀ hx hdx hx0 hd0
  intro g L' h₁ tk kb X T F N lt
  k_fold
  k_lt lt
  k_steps
  all_goals exact h _ _ _ _ _ _ _ (keepsBut_end kb (by assumption)) ((‹News g L' _ _› (x, _) (.tail _ (.head _))).1) ((‹News g L' _ _› (dx, _) (.head _)).1)
end
end Mine
-- part Mk2
set_option maxHeartbeats 8000000
namespace Mine
open PySem PySem.W PySem.Calls PyProof.Rows
section
variable {w : World} {A : Around} {s : Shared} {p : Program} {loose : List Str} {mg mb : Str → Option Value}
theorem get_new {Q E : Value → Shared → Prop} (X : (Mine.Ho.frag w.params).In s.heap) (h : Q (.ref 109) { s with toks := s.toks + 1 }) :
    wpAny (model PG w) A (getAttr (.ref 616) (Str.ofString "__new__") false) Q E s := by
  have hr : readsIn (Mine.Ho.frag w.params) 616 (.type "type") = true := by k_is
  have e : findCls (Mine.Ho.frag w.params) (.ref 616) (.type "type") (Str.ofString "__new__") = some (.get (.builtin "staticmethod.__get__") (.ref 113) .none (.ref 616)) := by k_is
  refine cls_bind X hr e (wpAny_call ?_)
  k_dflt (refine' sm_get (s := { s with toks := s.toks + 1 }) X ?k6 (handed_on ?k7 ?_); (case k6 => k_is); (case k7 => k_handed))
  exact h
theorem make_sio {R : Result → Shared → Prop} {v : Str} {t : Tok} (X : (Mine.Ho.frag w.params).In s.heap) (T : TopRead p loose mg mb s.heap) (hd : A.depth < 930)
    (h : ∀ h' tk x dx k1 k2 k3 t1 t3, Keeps s.heap h' → s.heap.get? x = none → s.heap.get? dx = none → @Ne Nat dx x → h'.get? x = some (instObj 616 dx) → h'.get? dx = some (dictOf (sioE w k1 k2 k3 t1 t t3 v 0) 3) → R (.ok (.ret (.ref x))) { s with heap := h', toks := tk }) :
    codeAny (model PG w) A (.call (.ref 616) ⟨[.str v t], []⟩) R s := by
  have call : Looks (model PG w) s.heap (specialOf (.ref 616) "__call__") (some (.builtin "type.__call__")) := looks_specialIn X (by k_is)
  have typ : Looks (model PG w) s.heap (isInstance (.ref 616) (.type "type")) true := looks_instIn X (by k_is)
  have made : Looks (model PG w) s.heap (Bind.madeBy (.ref 616)) none := Looks.of_peek X (by kernel_rfl)
  have self : Looks (model PG w) s.heap (isSubtype (.ref 616) (.ref 616)) true := looks_subIn X (by k_is)
  have hi : Looks (model PG w) s.heap (typeLookup (.ref 616) "__init__") (some (.ref 386)) := looks_findIn X (by k_is)
  have hC := X _ _ (sioCls w).2
  have e4 : (sioCls w).1.1.mro.isEmpty = false := rfl
  obtain ⟨H, g, d, tk, os⟩ := s
  refine codeAny_of_tree ?_
  show wpAny _ _ (callAny (.ref 616) _) _ _ _
  refine nd_load hC ?_
  show wpAny _ _ (callAny.viaDunder (.ref 616) _) _ _ _
  unfold callAny.viaDunder
  refine wpAny_bind (call.at ?_)
  dsimp only
  rw [tc_bind]
  refine wpAny_bind (wpAny_pure (wpAny_bind (wpAny_pure ?_)))
  refine wpAny_pure (a := Fin.again (.call (.builtin "type.__call__") ⟨[.ref 616, .str v t], []⟩)) (And.intro rfl ?_)
  refine codeAny_call_builtin_at (Code.quiet_builtin _ (by decide +kernel)) entry_typeCall ?_
  with_reducible refine check_slot tc_kind tc_split typ (tc_args _ _ _) ?_
  unfold Builtin.«type.__call__»
  have hm : Looks (model PG w) H (mroOf (.ref 616)) (sioCls w).1.1.mro := ((Looks.ld (part := none) hC).andThen .now).andThen .now
  repeat (first | with_reducible refine get_new (by assumption) ?_ | with_reducible refine wpAny_call ?_ | simp only [e4, Bool.false_eq_true, if_false] | lk)
  have hd' : (A.under (Code.builtin "type.__call__" ⟨[.ref 616, .str v t], []⟩)).depth < 940 := by rw [depth_under_make]; omega
  refine iob_new X T (Nat.lt_trans hd' (by decide)) fun H2 tk2 k2 => ?_
  have kp : Keeps H2 ((H2.push emptyDict).push (instObj 616 H2.objs.size)) := fun b o e => Heap.get?_push_of_some _ (Heap.get?_push_of_some _ e)
  have hx : ((H2.push emptyDict).push (instObj 616 H2.objs.size)).get? (H2.objs.size + 1) = some (instObj 616 H2.objs.size) := by heap_get
  have hdx : ((H2.push emptyDict).push (instObj 616 H2.objs.size)).get? H2.objs.size = some (dictOf [] 0) := by heap_get
  have nx : H.get? (H2.objs.size + 1) = none := by
    cases q : H.get? (H2.objs.size + 1) with
    | none => rfl
    | some o => exact absurd (Heap.lt_size (k2 _ _ q)) (Nat.not_lt.mpr (Nat.le_succ _))
  have nd : H.get? H2.objs.size = none := by
    cases q : H.get? H2.objs.size with
    | none => rfl
    | some o => exact absurd (Heap.lt_size (k2 _ _ q)) (Nat.lt_irrefl _)
  have hne : @Ne Nat H2.objs.size (H2.objs.size + 1) := Nat.ne_of_lt (Nat.lt_succ_self _)
  generalize H2.objs.size + 1 = x at hx nx hne ⊢
  generalize H2.objs.size = dx at hx hdx nd hne kp ⊢
  have kk : Keeps H ((H2.push emptyDict).push (instObj 616 dx)) := fun b o e => kp b o (k2 b o e)
  generalize (H2.push emptyDict).push (instObj 616 dx) = H3 at hx hdx kp kk ⊢
  have t1 : Looks (model PG w) H3 (typeOf (.ref x)) (.ref 616) := (Looks.ld hx).andThen .now
  have s1 := self.keeps kk
  have i1 := hi.keeps kk
  have b1 := bind_fn (M := model PG w) (X.keeps kk) (.ref x) (f := 386) (by k_is)
  unfold isInstance callSpecial? specialOf
  dsimp only
  repeat (first | with_reducible refine wpAny_call ?_ | lk)
  refine codeAny_mono (sio_init (h₀ := H) X T kk hx hdx nx nd hne hd' (R := fun r s' => ∃ (h' : Heap) (tk' : Nat) (k1 k2 k3 t1 t3 : Tok), r = .ok (.ret .none) ∧ s' = ⟨h', g, d, tk', os⟩ ∧ KeepsBut [dx, x] H3 h' ∧ h'.get? x = some (instObj 616 dx) ∧ h'.get? dx = some (dictOf (sioE w k1 k2 k3 t1 t t3 v 0) 3)) fun h' tk' k1 k2 k3 t1 t3 a b c => ⟨h', tk', k1, k2, k3, t1, t3, rfl, rfl, a, b, c⟩) fun r s' z => ?_
  obtain ⟨h', tk', k1, k2, k3, t1, t3, rfl, rfl, a, b, c⟩ := z
  refine wpAny_pure (wpAny_pure ?_)
  refine h h' tk' x dx k1 k2 k3 t1 t3 (fun q o e => a q o (fun z => ?_) (kk q o e)) nx nd hne b c
  rcases List.mem_cons.mp z with rfl | z
  · exact absurd (e.symm.trans nd) (by intro z; cases z)
  · rcases List.mem_cons.mp z with rfl | z
    · exact absurd (e.symm.trans nx) (by intro z; cases z)
    · cases z
end
end Mine
-- part Dm
set_option maxHeartbeats 8000000
namespace Mine
open PySem PySem.W PySem.Calls PyProof.Rows
abbrev dqO : Obj := { cls := .type "collections.deque", data := .fields #[.none, rawInt 0] }
theorem dqAt_of {h : Heap} {a : Addr} (e : h.get? a = some dqO) : DqAt h a := ⟨_, _, e, rfl, rfl, rfl⟩
namespace Dqq
theorem mro_dq : mroOf (.type "collections.deque") = pure [.type "collections.deque", .type "object"] := by rw [mroOf_type]; kernel_rfl
theorem lookup_dq_new : typeLookup (.type "collections.deque") "__new__" = pure (some (.builtin "collections.deque.__new__")) := by rw [typeLookup_type, builtinLookup_eq_fast]; kernel_rfl
theorem slot_dq_init : Slot "collections.deque" "__init__" "collections.deque.__init__" :=
  .of (owner := "collections.deque") (n := "__init__") (by rw [typeLookup_type, builtinLookup_eq_fast]; kernel_rfl) (by decide +kernel) (by decide +kernel) (by decide +kernel)
    (by first | exact .inl (by decide +kernel) | exact .inr (by decide +kernel)) (by rw [isSubtype_type]; kernel_rfl)
theorem called_dq : TypeCalled "collections.deque" "collections.deque.__new__" "collections.deque.__init__" :=
  ⟨by decide +kernel, by decide +kernel, ⟨_, _, mro_dq⟩, madeBy_type mro_dq lookup_dq_new (by decide +kernel), by decide +kernel, by rw [isSubtype_type]; kernel_rfl, slot_dq_init⟩
theorem typeCall_dq : checkTypeCall "collections.deque" ⟨[], []⟩ = pure () := by rw [PySem.W.Fast.te11612656972197000677]; kernel_rfl
theorem newCall_dq : checkBuiltinCall "collections.deque.__new__" ⟨[.type "collections.deque"], []⟩ = pure () := by rw [PySem.W.Fast.te10254737850608025244]; kernel_rfl
theorem entry_dq_new : entryFor table "collections.deque.__new__" = some Builtin.«collections.deque.__new__» := entryFor_of_tree (by kernel_rfl)
theorem entry_dq_init : entryFor table "collections.deque.__init__" = some Builtin.«collections.deque.__init__» := entryFor_of_tree (by kernel_rfl)
theorem plain_dq_new : plainId "collections.deque.__new__" = true := by decide +kernel
theorem args_dq_init (a : Value) : argsOk "collections.deque.__init__" ⟨[a], []⟩ := by unfold argsOk; rw [PySem.W.S.signatureZ_eq]; kernel_rfl
theorem sub_dq : isSubtype (.type "collections.deque") (.type "collections.deque") = pure true := by rw [isSubtype_type]; kernel_rfl
section
variable {prog : Program} {w : World} {A : Around} {E : Value → Shared → Prop} {s : Shared}
theorem new_dq {Q₁ : Value → Shared → Prop}
    (h : Q₁ (.ref s.heap.objs.size) { s with heap := s.heap.push { cls := .type "collections.deque", data := .fields #[.none, rawInt 0] } }) :
    codeAny (model prog w) A (.call (.builtin "collections.deque.__new__") ⟨[.type "collections.deque"], []⟩) (wants Q₁ E) s := by
  refine codeAny_of_tree ?_
  show wpAny _ A.in1 (do checkBuiltinCall "collections.deque.__new__" ⟨[.type "collections.deque"], []⟩; again (.builtin "collections.deque.__new__" ⟨[.type "collections.deque"], []⟩)) _ _ s
  refine wpAny_bind (wpAny_of_eq newCall_dq (wpAny_pure ⟨plainId_quiet plain_dq_new _, codeAny_builtin entry_dq_new ?_⟩))
  rw [Around.under_plainId plain_dq_new _]
  have hsub := sub_dq
  obtain ⟨hp, g, d, tk, os⟩ := s
  unfold Builtin.«collections.deque.__new__» Builtin.Deque.newArgs Builtin.Deque.new
  wp_walk
  refine wpAny_of_eq sub_dq ?_
  have e : typeHasDict (.type "collections.deque") = false := by decide +kernel
  dsimp only
  rw [if_neg (by decide)]
  refine wpAny_pure ?_
  dsimp only
  rw [if_neg (by decide), e]
  refine wpAny_bind ?_
  rw [if_neg (by decide)]
  refine wpAny_bind (wpAny_pure ?_)
  exact wpAny_newObj_type (wpAny_pure h)
theorem init_dq {a : Addr} {Q : Fin → Shared → Prop} (ha : s.heap.get? a = some { cls := .type "collections.deque", data := .fields #[.none, rawInt 0] })
    (h : ∀ h', KeepsBut [a] s.heap h' → h'.get? a = some dqO → Q (.done (.ret .none)) { s with heap := h' }) :
    wpAny (model prog w) A (Builtin.«collections.deque.__init__» ⟨[.ref a], []⟩) Q E s := by
  unfold Builtin.«collections.deque.__init__»
  dsimp only
  rw [if_neg (by decide)]
  show wpAny _ _ (setField (.ref a) 0 .none >>= fun _ => Builtin.Deque.clear (.ref a) >>= fun _ => ret .none) _ _ _
  refine wpAny_bind (wpAny_setField ha rfl (by show 0 < 2; decide) ?_)
  have h2 := Heap.get?_update_self (Obj.mapFields (·.setIfInBounds 0 Value.none)) ha rfl
  unfold Builtin.Deque.clear Builtin.Deque.items
  refine wpAny_bind (wpAny_bind (wpAny_bind (wpAny_fieldsOf h2 rfl (wpAny_pure ?_))))
  rw [if_neg (by show ¬ (0 : Nat) > 0; decide)]
  refine wpAny_pure (wpAny_pure (h _ (fun b o hb e => ?_) h2))
  exact (Heap.get?_update_other _ _ (fun q : a = b => hb (q ▸ .head _))).trans e
theorem call_dq {Q : Value → Shared → Prop} (h : ∀ h' tk a, Keeps s.heap h' → a = s.heap.objs.size → h'.get? a = some dqO → Q (.ref a) { s with heap := h', toks := tk }) :
    wpAny (model prog w) A (call (.type "collections.deque") []) Q E s := by
  refine callType_codes (Q₁ := fun obj s₁ => obj = .ref s.heap.objs.size ∧ s₁ = { s with heap := s.heap.push { cls := .type "collections.deque", data := .fields #[.none, rawInt 0] } }) called_dq typeCall_dq entry_dq_init
    (new_dq ⟨rfl, rfl⟩) fun obj s₁ h₁ => ?_
  obtain ⟨rfl, rfl⟩ := h₁
  have hS : (s.heap.push { cls := .type "collections.deque", data := .fields #[.none, rawInt 0] }).get? s.heap.objs.size = some { cls := .type "collections.deque", data := .fields #[.none, rawInt 0] } := Heap.get?_push_size _ rfl
  refine ⟨⟨_, hS, rfl⟩, args_dq_init _, init_dq hS fun h' kb d => ⟨rfl, h h' _ _ (fun b o e => kb b o (fun q => ?_) (Heap.get?_push_of_some _ e)) rfl d⟩⟩
  rw [List.mem_singleton.mp q] at e
  exact absurd (Heap.lt_size e) (Nat.lt_irrefl _)
end
end Dqq
section
variable {w : World} {A : Around} {s : Shared} {p : Program} {loose : List Str} {mg mb : Str → Option Value} {h₀ : Heap} {L : Addr} {m : Str → Option Value} {news : List (Addr × Obj)} {Q E : Value → Shared → Prop}
theorem k_dq (F : Fr h₀ L s.heap m) (N : News h₀ L s.heap news)
    (h : ∀ h' tk a, Fr h₀ L h' m → News h₀ L h' ((a, dqO) :: news) → GnNe a news → a ≠ L → Q (.ref a) { s with heap := h', toks := tk }) : wpAny (model PG w) A (call (.type "collections.deque") []) Q E s := by
  refine Dqq.call_dq fun h' tk a k e d => ?_
  obtain ⟨oL, _, _, hL, _⟩ := id F.ns
  have hLt := Heap.lt_size hL
  have hn : h₀.get? a = none := by
    cases q : h₀.get? a with
    | none => rfl
    | some o => exact absurd (Heap.lt_size (F.keep _ _ q)) (by rw [e]; exact Nat.lt_irrefl _)
  have hne : a ≠ L := fun q => by rw [q] at e; rw [e] at hLt; exact Nat.lt_irrefl _ hLt
  refine h h' tk a (frK F k) (fun q hq => ?_) (gnNe_of fun q hq z => ?_) hne
  · rcases List.mem_cons.mp hq with rfl | hq
    · exact ⟨d, hne, hn⟩
    · exact newsK N k q hq
  · have := Heap.lt_size (N q hq).1
    rw [z, e] at this
    exact Nat.lt_irrefl _ this
theorem k_sio {v : Str} {t : Tok} (F : Fr h₀ L s.heap m) (N : News h₀ L s.heap news) (X₀ : (Mine.Ho.frag w.params).In h₀) (T₀ : TopRead p loose mg mb h₀) (hd : A.depth < 930)
    (h : ∀ h' tk y ds k1 k2 k3 t1 t3, Fr h₀ L h' m → News h₀ L h' ((ds, dictOf (sioE w k1 k2 k3 t1 t t3 v 0) 3) :: (y, instObj 616 ds) :: news) → GnNe ds ((y, instObj 616 ds) :: news) → GnNe y news → Q (.ref y) { s with heap := h', toks := tk }) :
    wpAny (model PG w) A (call (.ref 616) [.str v t]) Q E s := by
  refine wpAny_call (make_sio (X₀.keeps F.keep) (T₀.keeps F.keep) hd fun h' tk y ds k1 k2 k3 t1 t3 k ny nd hne hy hds => ?_)
  obtain ⟨oL, _, _, hL, _⟩ := id F.ns
  have n0 : ∀ a, s.heap.get? a = none → h₀.get? a = none := fun a e => by
    cases q : h₀.get? a with
    | none => rfl
    | some o => rw [F.keep _ _ q] at e; cases e
  have nL : ∀ a, s.heap.get? a = none → a ≠ L := fun a e q => by rw [q, hL] at e; cases e
  have nN : ∀ a, s.heap.get? a = none → ∀ q ∈ news, q.1 ≠ a := fun a e q hq z => by rw [← z, (N q hq).1] at e; cases e
  refine h h' tk y ds k1 k2 k3 t1 t3 (frK F k) (fun q hq => ?_) (gnNe_of fun q hq => ?_) (gnNe_of (nN y ny))
  · rcases List.mem_cons.mp hq with rfl | hq
    · exact ⟨hds, nL _ nd, n0 _ nd⟩
    · rcases List.mem_cons.mp hq with rfl | hq
      · exact ⟨hy, nL _ ny, n0 _ ny⟩
      · exact newsK N k q hq
  · rcases List.mem_cons.mp hq with rfl | hq
    · exact Ne.symm hne
    · exact nN ds nd q hq
end
end Mine
-- part Li
set_option maxHeartbeats 8000000
namespace Mine
open PySem PySem.W PySem.Calls PyProof.Rows
/-- the lexer's dict as __init__ leaves it -/
abbrev lexD0 (w : World) (C : LC) (st : Value) (ln : Int) (lt : Tok) (tok : Str) (tt : Tok) : Obj :=
  dictOf [⟨PyData.keyHash w.params (Str.ofString "instream"), .str (Str.ofString "instream") (C.kt 0), .ref C.y⟩,
   ⟨PyData.keyHash w.params (Str.ofString "infile"), .str (Str.ofString "infile") (C.kt 1), .none⟩,
   ⟨PyData.keyHash w.params (Str.ofString "posix"), .str (Str.ofString "posix") (C.kt 2), .bool true⟩,
   ⟨PyData.keyHash w.params (Str.ofString "eof"), .str (Str.ofString "eof") (C.kt 3), .none⟩,
   ⟨PyData.keyHash w.params (Str.ofString "commenters"), .str (Str.ofString "commenters") (C.kt 4), .str (Str.ofString "#") (C.vt 4)⟩,
   ⟨PyData.keyHash w.params (Str.ofString "wordchars"), .str (Str.ofString "wordchars") (C.kt 5), .str C.wc (C.vt 5)⟩,
   ⟨PyData.keyHash w.params (Str.ofString "whitespace"), .str (Str.ofString "whitespace") (C.kt 6), .str (Str.ofString " \t\r\n") (C.vt 6)⟩,
   ⟨PyData.keyHash w.params (Str.ofString "whitespace_split"), .str (Str.ofString "whitespace_split") (C.kt 7), .bool false⟩,
   ⟨PyData.keyHash w.params (Str.ofString "quotes"), .str (Str.ofString "quotes") (C.kt 8), .str (Str.ofString "'\"") (C.vt 8)⟩,
   ⟨PyData.keyHash w.params (Str.ofString "escape"), .str (Str.ofString "escape") (C.kt 9), .str (Str.ofString "\\") (C.vt 9)⟩,
   ⟨PyData.keyHash w.params (Str.ofString "escapedquotes"), .str (Str.ofString "escapedquotes") (C.kt 10), .str (Str.ofString "\"") (C.vt 10)⟩,
   ⟨PyData.keyHash w.params (Str.ofString "state"), .str (Str.ofString "state") (C.kt 11), st⟩,
   ⟨PyData.keyHash w.params (Str.ofString "pushback"), .str (Str.ofString "pushback") (C.kt 12), .ref C.pb⟩,
   ⟨PyData.keyHash w.params (Str.ofString "lineno"), .str (Str.ofString "lineno") (C.kt 13), .int ln lt⟩,
   ⟨PyData.keyHash w.params (Str.ofString "debug"), .str (Str.ofString "debug") (C.kt 14), .int 0 (C.vt 14)⟩,
   ⟨PyData.keyHash w.params (Str.ofString "token"), .str (Str.ofString "token") (C.kt 15), .str tok tt⟩,
   ⟨PyData.keyHash w.params (Str.ofString "filestack"), .str (Str.ofString "filestack") (C.kt 16), .ref C.fs⟩,
   ⟨PyData.keyHash w.params (Str.ofString "source"), .str (Str.ofString "source") (C.kt 17), .none⟩,
   ⟨PyData.keyHash w.params (Str.ofString "_punctuation_chars"), .str (Str.ofString "_punctuation_chars") (C.kt 18), .str (Str.ofString "") (C.vt 18)⟩] 19
/-- what a made lexer is -/
structure LexNew (w : World) (h₀ h' : Heap) (C : LC) (sk lt tt pt : Tok) : Prop where
  ap : C.Apart
  dx : h'.get? C.dx = some (lexD0 w C (.str (Str.ofString " ") sk) 1 lt (Str.ofString "") tt)
  ds : h'.get? C.ds = some (sioD w C 0 pt)
  x : h'.get? C.x = some (instObj 751 C.dx)
  y : h'.get? C.y = some (instObj 616 C.ds)
  pb : h'.get? C.pb = some dqO
  fs : h'.get? C.fs = some dqO
  nds : h₀.get? C.ds = none
  ny : h₀.get? C.y = none
  qpb : C.pb ∉ LXa C
  qfs : C.fs ∉ LXa C
  npb : h₀.get? C.pb = none
  nfs : h₀.get? C.fs = none
theorem lex_made {w : World} {h₀ h' : Heap} {x dx y ds pb fs : Addr} {v wc : Str} {k0 k1 k2 k3 k4 k5 k6 k7 k8 k9 k10 k11 k12 k13 k14 k15 k16 k17 k18 s1 s2 s3 t4 t5 t6 t8 t9 t10 t14 t18 u1 u2 sk lt tt pt : Tok}
    (a1 : @Ne Nat dx ds) (a2 : @Ne Nat dx x) (a3 : @Ne Nat dx y) (a4 : @Ne Nat ds x) (a5 : @Ne Nat ds y) (a6 : @Ne Nat x y)
    (hdx : h'.get? dx = some (dictOf [⟨PyData.keyHash w.params (Str.ofString "instream"), .str (Str.ofString "instream") k0, .ref y⟩,
   ⟨PyData.keyHash w.params (Str.ofString "infile"), .str (Str.ofString "infile") k1, .none⟩,
   ⟨PyData.keyHash w.params (Str.ofString "posix"), .str (Str.ofString "posix") k2, .bool true⟩,
   ⟨PyData.keyHash w.params (Str.ofString "eof"), .str (Str.ofString "eof") k3, .none⟩,
   ⟨PyData.keyHash w.params (Str.ofString "commenters"), .str (Str.ofString "commenters") k4, .str (Str.ofString "#") t4⟩,
   ⟨PyData.keyHash w.params (Str.ofString "wordchars"), .str (Str.ofString "wordchars") k5, .str wc t5⟩,
   ⟨PyData.keyHash w.params (Str.ofString "whitespace"), .str (Str.ofString "whitespace") k6, .str (Str.ofString " \t\r\n") t6⟩,
   ⟨PyData.keyHash w.params (Str.ofString "whitespace_split"), .str (Str.ofString "whitespace_split") k7, .bool false⟩,
   ⟨PyData.keyHash w.params (Str.ofString "quotes"), .str (Str.ofString "quotes") k8, .str (Str.ofString "'\"") t8⟩,
   ⟨PyData.keyHash w.params (Str.ofString "escape"), .str (Str.ofString "escape") k9, .str (Str.ofString "\\") t9⟩,
   ⟨PyData.keyHash w.params (Str.ofString "escapedquotes"), .str (Str.ofString "escapedquotes") k10, .str (Str.ofString "\"") t10⟩,
   ⟨PyData.keyHash w.params (Str.ofString "state"), .str (Str.ofString "state") k11, (.str (Str.ofString " ") sk)⟩,
   ⟨PyData.keyHash w.params (Str.ofString "pushback"), .str (Str.ofString "pushback") k12, .ref pb⟩,
   ⟨PyData.keyHash w.params (Str.ofString "lineno"), .str (Str.ofString "lineno") k13, .int 1 lt⟩,
   ⟨PyData.keyHash w.params (Str.ofString "debug"), .str (Str.ofString "debug") k14, .int 0 t14⟩,
   ⟨PyData.keyHash w.params (Str.ofString "token"), .str (Str.ofString "token") k15, .str (Str.ofString "") tt⟩,
   ⟨PyData.keyHash w.params (Str.ofString "filestack"), .str (Str.ofString "filestack") k16, .ref fs⟩,
   ⟨PyData.keyHash w.params (Str.ofString "source"), .str (Str.ofString "source") k17, .none⟩,
   ⟨PyData.keyHash w.params (Str.ofString "_punctuation_chars"), .str (Str.ofString "_punctuation_chars") k18, .str (Str.ofString "") t18⟩] 19))
    (hds : h'.get? ds = some (dictOf (sioE w s1 s2 s3 u1 u2 pt v 0) 3)) (hx : h'.get? x = some (instObj 751 dx)) (hy : h'.get? y = some (instObj 616 ds)) (hpb : h'.get? pb = some dqO) (hfs : h'.get? fs = some dqO)
    (n1 : h₀.get? ds = none) (n2 : h₀.get? y = none) (n3 : h₀.get? pb = none) (n4 : h₀.get? fs = none) (q1 : pb ∉ [dx, ds, x, y]) (q2 : fs ∉ [dx, ds, x, y]) :
    ∃ (C : LC) (sk lt tt pt : Tok), C.x = x ∧ C.dx = dx ∧ C.buf = v ∧ LexNew w h₀ h' C sk lt tt pt :=
  ⟨⟨x, dx, y, ds, pb, fs, fun i => [k0, k1, k2, k3, k4, k5, k6, k7, k8, k9, k10, k11, k12, k13, k14, k15, k16, k17, k18, 0, s1, s2, s3].getD i 0, fun i => [0, 0, 0, 0, t4, t5, t6, 0, t8, t9, t10, 0, 0, 0, t14, 0, 0, 0, t18, 0, u1, u2, 0].getD i 0, v, wc⟩, sk, lt, tt, pt, rfl, rfl, rfl, ⟨⟨a1, a2, a3, a4, a5, a6⟩, hdx, hds, hx, hy, hpb, hfs, n1, n2, q1, q2, n3, n4⟩⟩
section
variable {w : World} {A : Around} {s : Shared} {p : Program} {loose : List Str} {mg mb : Str → Option Value}
theorem not_mem4 {a b c d e : Nat} (h1 : b ≠ a) (h2 : c ≠ a) (h3 : d ≠ a) (h4 : e ≠ a) : a ∉ [b, c, d, e] := fun q => by
  simp only [List.mem_cons, List.not_mem_nil, or_false] at q
  rcases q with q | q | q | q
  · exact h1 q.symm
  · exact h2 q.symm
  · exact h3 q.symm
  · exact h4 q.symm
theorem lex_init {R : Result → Shared → Prop} {h₀ : Heap} {x dx : Addr} {v : Str} {t : Tok} (X₀ : (Mine.Ho.frag w.params).In h₀) (T₀ : TopRead p loose mg mb h₀) (k₀ : Keeps h₀ s.heap) (hx : s.heap.get? x = some (instObj 751 dx)) (hdx : s.heap.get? dx = some (dictOf [] 0)) (hx0 : h₀.get? x = none) (hd0 : h₀.get? dx = none) (hne : @Ne Nat dx x) (hd : A.depth < 900)
    (h : ∀ h' tk, KeepsBut [dx, x] s.heap h' → (∃ (C : LC) (sk lt tt pt : Tok), C.x = x ∧ C.dx = dx ∧ C.buf = v ∧ LexNew w s.heap h' C sk lt tt pt) → R (.ok (.ret .none)) { s with heap := h', toks := tk }) :
    codeAny (model PG w) A (.call (.ref 675) ⟨[.ref x, .str v t], [(Str.ofString "posix", .bool true)]⟩) R s := by
  k_with_none
  k_with "enterH" => (k_dflt (case k1 => k_asm); (case k2 => k_asm); (case k3 => assumption);  (case k4 => k_is); (case k5 => k_is); (case k7 => first | exact BindsTo.of_eq rfl | exact binds_K (by assumption) rfl (by k_is) rfl rfl rfl); (case k8 => exact locs rfl); (case c1 => exact rfl); (case c2 => exact rfl); (case c3 => exact rfl); (case c4 => decide))
  k_with "call ref" => ((with_reducible show wpAny _ _ (call (Value.ref 616) _) _ _ _); refine' k_sio ?k1 ?k2 ?k3 ?k4 ?k5 ?_; (case k1 => k_asm); (case k2 => k_asm); (case k3 => k_asm); (case k4 => k_asm); (case k5 => show _ + 1 < _; omega); intro h' tk' y' ds' k1' k2' k3' t1' t3' F' N' g1' g2'; (simp only [GnNe, and_true] at g1' g2'); (try k_sweep))
  k_with "call type:collections.deque" => (refine' k_dq ?k1 ?k2 ?_; (case k1 => k_asm); (case k2 => k_asm); intro h' tk' a' F' N' g1' g2'; (simp only [GnNe, and_true] at g1'); (try k_sweep))
  have XS := X₀.keeps k₀
  have N₀ : ∀ p ∈ [(dx, dictOf [] 0), (x, instObj 751 dx)], s.heap.get? p.1 = some p.2 ∧ h₀.get? p.1 = none :=
    List.forall_mem_cons.mpr ⟨⟨hdx, hd0⟩, List.forall_mem_cons.mpr ⟨⟨hx, hx0⟩, List.forall_mem_nil _⟩⟩
  refine' code_fnH (news := [(dx, dictOf [] 0), (x, instObj 751 dx)]) (binds := [(Str.ofString "self", .ref x), (Str.ofString "instream", .str v t), (Str.ofString "infile", .none), (Str.ofString "posix", .bool true), (Str.ofString "punctuation_chars", .bool false)]) ?k1 ?k2 ?k3 N₀ ?k4 ?k5 ?k6 ?k7 ?k8 ?_ ?c1 ?c2 ?c3 ?c4
  walk_at "enterH"
  case k6 => exact Nat.lt_trans hd (by decide)
  clear XS N₀ X₀ T₀ k₀ hx hdx hx0 hd0
  intro g L' h₁ tk kb X T F N lt
  k_fold
  k_lt lt
  k_steps
  rename News g L' _ _ => NN
  have nn : ∀ a, g.get? a = none → @Ne Nat dx a → @Ne Nat x a → s.heap.get? a = none := fun a e q1 q2 => by
    cases q : s.heap.get? a with
    | none => rfl
    | some o =>
      rw [kb a o (fun z => by
        rcases List.mem_cons.mp z with z | z
        · exact q1 z.symm
        · exact q2 (List.mem_singleton.mp z).symm) q] at e
      cases e
  refine h _ _ (keepsBut_end kb (by assumption)) ?_
  have m1 := NN _ (.head _)
  have m2 := NN _ (.tail _ (.head _))
  have m3 := NN _ (.tail _ (.tail _ (.head _)))
  have m4 := NN _ (.tail _ (.tail _ (.tail _ (.head _))))
  have m5 := NN _ (.tail _ (.tail _ (.tail _ (.tail _ (.head _)))))
  have m6 := NN _ (.tail _ (.tail _ (.tail _ (.tail _ (.tail _ (.head _))))))
  dsimp only at m1 m2 m3 m4 m5 m6
  rename (@Ne Nat _ _ ∧ @Ne Nat _ _) => g2
  rename (@Ne Nat _ _ ∧ @Ne Nat _ _ ∧ @Ne Nat _ _) => g3
  rename (@Ne Nat _ _ ∧ @Ne Nat _ _ ∧ @Ne Nat _ _ ∧ @Ne Nat _ _) => g4
  rename (@Ne Nat _ _ ∧ @Ne Nat _ _ ∧ @Ne Nat _ _ ∧ @Ne Nat _ _ ∧ @Ne Nat _ _) => g5
  exact lex_made g3.2.1 hne g2.1 g3.2.2.symm g3.1.symm g2.2 m5.1 m3.1 m6.1 m4.1 m2.1 m1.1 (nn _ m3.2.2 g3.2.1 g3.2.2) (nn _ m4.2.2 g2.1 g2.2) (nn _ m2.2.2 g4.2.2.1 g4.2.2.2) (nn _ m1.2.2 g5.2.2.2.1 g5.2.2.2.2)
    (not_mem4 g4.2.2.1 g4.1 g4.2.2.2 g4.2.1) (not_mem4 g5.2.2.2.1 g5.2.1 g5.2.2.2.2 g5.2.2.1)
end
end Mine
-- part Sp
set_option maxHeartbeats 8000000
namespace Mine
open PySem PySem.W PySem.Calls PyProof.Rows
section
variable {w : World} {A : Around} {s : Shared} {p : Program} {loose : List Str} {mg mb : Str → Option Value} {h₀ : Heap} {L : Addr} {m : Str → Option Value} {Q E : Value → Shared → Prop}
/-- a lexer made -/
theorem k_lex {v : Str} {t : Tok} (F : Fr h₀ L s.heap m) (N : News h₀ L s.heap []) (X₀ : (Mine.Ho.frag w.params).In h₀) (T₀ : TopRead p loose mg mb h₀) (hd : A.depth < 880)
    (h : ∀ h' tk (C : LC) sk lt tt pt, C.buf = v → C.Apart → (C.pb ∉ LXa C ∧ C.fs ∉ LXa C) → (@Ne Nat C.pb C.dx ∧ @Ne Nat C.fs C.dx) → Fr h₀ L h' m →
      News h₀ L h' [(C.dx, lexD0 w C (.str (Str.ofString " ") sk) 1 lt (Str.ofString "") tt), (C.ds, sioD w C 0 pt), (C.x, instObj 751 C.dx), (C.y, instObj 616 C.ds), (C.pb, dqO), (C.fs, dqO)] → Q (.ref C.x) { s with heap := h', toks := tk }) :
    wpAny (model PG w) A (call (.ref 751) [.str v t] [(Str.ofString "posix", .bool true)]) Q E s := by
  refine wpAny_call (make_K F N (X₀.keeps F.keep) (by k_is) (fI := 675) (by k_is) (by k_is) fun x dx H F1 N1 l1 l2 => ?_)
  have m1 := N1 _ (.head _)
  have m2 := N1 _ (.tail _ (.head _))
  dsimp only at m1 m2
  have hne : @Ne Nat dx x := Nat.ne_of_lt l2
  refine lex_init (h₀ := h₀) X₀ T₀ F1.keep m1.1 m2.1 m1.2.2 m2.2.2 hne (by show _ + 1 < _; omega) fun h' tk kb hC => ?_
  obtain ⟨C, sk, lt, tt, pt, rfl, rfl, rfl, ap, e1, e2, e3, e4, e5, e6, e7, e8, e9, e10, e11, e12⟩ := hC
  refine ⟨rfl, ?_⟩
  have n0 : ∀ a, H.get? a = none → h₀.get? a = none := fun a e => by
    cases q : h₀.get? a with
    | none => rfl
    | some o => rw [F1.keep _ _ q] at e; cases e
  obtain ⟨oL, _, _, hL, _⟩ := id F1.ns
  have nL : ∀ a, H.get? a = none → a ≠ L := fun a e q => by rw [q, hL] at e; cases e
  have F2 : Fr h₀ L h' m := frBut F1 (fun q => by
    rcases List.mem_cons.mp q with q | q
    · exact m2.2.1 q.symm
    · exact m1.2.1 (List.mem_singleton.mp q).symm) (fun a q => by
    rcases List.mem_cons.mp q with q | q
    · rw [q]; exact m2.2.2
    · rw [List.mem_singleton.mp q]; exact m1.2.2) kb
  have qp : @Ne Nat C.pb C.dx := fun z => e9 (z ▸ .head _)
  have qf : @Ne Nat C.fs C.dx := fun z => e10 (z ▸ .head _)
  refine h h' tk C sk lt tt pt rfl ap ⟨e9, e10⟩ ⟨qp, qf⟩ F2 fun q hq => ?_
  simp only [List.mem_cons, List.not_mem_nil, or_false] at hq
  rcases hq with rfl | rfl | rfl | rfl | rfl | rfl
  · exact ⟨e1, m2.2.1, m2.2.2⟩
  · exact ⟨e2, nL _ e7, n0 _ e7⟩
  · exact ⟨e3, m1.2.1, m1.2.2⟩
  · exact ⟨e4, nL _ e8, n0 _ e8⟩
  · exact ⟨e5, nL _ e11, n0 _ e11⟩
  · exact ⟨e6, nL _ e12, n0 _ e12⟩
/-- the list of a lexer, seen from the frame that made it -/
theorem split_end {frs : List Env} {env : Env} {H h1 : Heap} {tk : Nat} {C : LC} {out : List Nat} {sk lt tt pt : Tok} (hA : C.Apart) (q1 : C.pb ∉ LXa C ∧ C.fs ∉ LXa C) (F1 : Fr h1 L H m)
    (N1 : News h1 L H [(C.dx, lexD w C (.str (Str.ofString " ") sk) 1 lt (Str.ofString "") tt), (C.ds, sioD w C 0 pt), (C.x, instObj 751 C.dx), (C.y, instObj 616 C.ds), (C.pb, dqO), (C.fs, dqO)])
    (hL : L = h1.objs.size) (X : (Mine.Ho.frag w.params).In h1) (T : TopRead p loose mg mb h1) (hfr : A.frames = some frs) (hh : A.handled = none) (hk : env.scope.kind ≠ .module) (hf : env.frame = some L)
    (FF : ∀ env ∈ frs, env.scope.kind ≠ .module ∧ ∃ Lf o, env.frame = some Lf ∧ h1.get? Lf = some o ∧ (∀ vs, o.data ≠ .fields vs)) (hd : A.depth < 800)
    (hb : C.buf.length < 1000000) (hl : Lx .start C.buf.cps.toList out) (ho : (⟨out.toArray⟩ : Str).length < 1000000)
    (h : ∀ h' tk t' S n, h1.get? S = none → h'.get? S = some (lstO #[.str ⟨out.toArray⟩ t'] n) → KeepsBut (frA frs) h1 h' →
      (∀ b o, h1.get? b = some o → (∀ vs, o.data ≠ .fields vs) → ∃ sl, h'.get? b = some { o with slots := sl }) → Q (.ref S) { s with heap := h', toks := tk }) :
    wpAny (model PG w) (A.deeper env) (call (.type "list") [.ref C.x]) Q E { s with heap := H, toks := tk } := by
  have NX : News h1 L H (LX w C (.str (Str.ofString " ") sk) 1 lt (Str.ofString "") tt 0 pt) := fun q hq => N1 q (by
    simp only [LX, List.mem_cons, List.not_mem_nil, or_false] at hq ⊢
    rcases hq with hq | hq | hq | hq <;> simp only [hq, true_or, or_true])
  have hlx : ∀ a ∈ LXa C, h1.get? a = none ∧ a ≠ L := fun a ha => by
    obtain ⟨q, hq, rfl⟩ := List.mem_map.mp (show a ∈ (LX w C (.str (Str.ofString " ") sk) 1 lt (Str.ofString "") tt 0 pt).map (·.1) from ha)
    exact ⟨(NX q hq).2.2, (NX q hq).2.1⟩
  have kg := hide_top F1.keep (n0_of NX)
  have n1 := N1 (C.pb, dqO) (by simp)
  have n2 := N1 (C.fs, dqO) (by simp)
  obtain ⟨oL, es, ep, gL, dL, _⟩ := id F1.ns
  refine list_lex (s := { s with heap := H, toks := tk }) (frs := env :: frs) hA (X.keeps kg) (T.keeps kg) (fun b o e => of_hideAll _ e) (fun q hq => ⟨(NX q hq).1, hideAll_none _ (List.mem_map_of_mem hq)⟩)
    (dqAt_of (hideAll_get _ n1.1 q1.1)) (dqAt_of (hideAll_get _ n2.1 q1.2)) (by show _ + 1 < _; omega) hb hl ho (by show Option.map _ A.frames = _; rw [hfr]; rfl) hh ?_ fun h' tk' t' S n e1 e2 e3 e4 => ?_
  · intro v hv
    rcases List.mem_cons.mp hv with rfl | hv
    · exact ⟨hk, L, oL, hf, gL, (fun vs q => by rw [dL] at q; cases q), (fun q => (hlx _ q).2 rfl)⟩
    · obtain ⟨z1, Lf, o, z2, z3, z4⟩ := FF v hv
      exact ⟨z1, Lf, o, z2, F1.keep _ _ z3, z4, (fun q => by rw [(hlx _ q).1] at z3; cases z3)⟩
  · refine h h' tk' t' S n ?_ e2 (fun b o hb e => ?_) (fun b o e hdat => ?_)
    · cases q : h1.get? S with
      | none => rfl
      | some o => rw [show H.get? S = some o from F1.keep _ _ q] at e1; cases e1
    · refine e3 b o (fun z => ?_) (F1.keep _ _ e)
      rcases List.mem_append.mp z with z | z
      · rw [(hlx _ z).1] at e; cases e
      · obtain ⟨v, hv, hvf⟩ := List.mem_filterMap.mp z
        rcases List.mem_cons.mp hv with rfl | hv
        · rw [hf] at hvf
          have := Heap.lt_size e
          rw [← (Option.some.inj hvf : L = b), hL] at this
          exact Nat.lt_irrefl _ this
        · exact hb (List.mem_filterMap.mpr ⟨v, hv, hvf⟩)
    · exact e4 b o (fun q => by rw [(hlx _ q).1] at e; cases e) (F1.keep _ _ e) hdat
theorem split_c {frs : List Env} {v : Str} {t : Tok} {out : List Nat} (X : (Mine.Ho.frag w.params).In s.heap) (T : TopRead p loose mg mb s.heap) (hfr : A.frames = some frs) (hh : A.handled = none)
    (FF : ∀ env ∈ frs, env.scope.kind ≠ .module ∧ ∃ Lf o, env.frame = some Lf ∧ s.heap.get? Lf = some o ∧ (∀ vs, o.data ≠ .fields vs)) (hd : A.depth < 800)
    (hb : v.length < 1000000) (hl : Lx .start v.cps.toList out) (ho : (⟨out.toArray⟩ : Str).length < 1000000)
    (h : ∀ h' tk t' S n, s.heap.get? S = none → h'.get? S = some (lstO #[.str ⟨out.toArray⟩ t'] n) → KeepsBut (frA frs) s.heap h' →
      (∀ b o, s.heap.get? b = some o → (∀ vs, o.data ≠ .fields vs) → ∃ sl, h'.get? b = some { o with slots := sl }) → Q (.ref S) { s with heap := h', toks := tk }) :
    wpAny (model PG w) A (call (.ref 763) [.str v t]) Q E s := by
  k_with_none
  k_with "enter" => (k_dflt (case k1 => k_asm); (case k2 => exact TopRead.nolimit (by k_asm)); (case k3 => k_is); (case k4 => k_is); (case k6 => first | exact BindsTo.of_eq rfl | exact binds_K (by assumption) rfl (by k_is) rfl rfl rfl); (case k7 => exact locs rfl); (case c1 => exact rfl); (case c2 => exact rfl); (case c3 => exact rfl); (case c4 => decide))
  k_with "call ref" => ((with_reducible show wpAny _ _ (call (Value.ref 751) _ _) _ _ _); refine' k_lex ?k1 ?k2 ?k3 ?k4 ?k5 ?_; (case k1 => k_asm); (case k2 => k_asm); (case k3 => k_asm); (case k4 => k_asm); (case k5 => show _ + 1 < _; omega); intro h' tk' C' sk' lt' tt' pt' eb' ap' q1' q2' F' N'; (obtain ⟨a1', a2', a3', a4', a5', a6'⟩ := id ap'); (try k_sweep))
  refine' call_fn (binds := [(Str.ofString "s", .str v t), (Str.ofString "comments", .bool false), (Str.ofString "posix", .bool true)]) ?k1 ?k2 ?k3 ?k4 ?k5 ?k6 ?k7 ?_ ?c1 ?c2 ?c3 ?c4
  walk_at "enter"
  case k5 => exact Nat.lt_trans hd (by decide)
  intro h₁ tk F N
  k_fold
  k_steps
  rename Fr s.heap _ _ _ => F1
  rename News s.heap _ _ _ => N1
  rename LC => C
  rename LC.Apart C => ap
  rename (C.pb ∉ LXa C ∧ C.fs ∉ LXa C) => q1
  rename (LC.buf _ = _) => eb
  subst eb
  refine split_end (C := { C with vt := fun i => if i = 4 then tk else C.vt i }) ⟨ap.1, ap.2, ap.3, ap.4, ap.5, ap.6⟩ q1 F1 N1 rfl X T hfr hh (by intro q; cases q) rfl FF hd hb hl ho fun h' tk' t' S n e1 e2 e3 e4 => ?_
  exact h h' tk' t' S n e1 e2 e3 e4
end
end Mine
-- part Tr
set_option maxHeartbeats 8000000
namespace Mine
open PySem PySem.W PySem.Calls PyProof.Rows
def specL : List Nat := [40, 41, 91, 93, 123, 125, 63, 42, 43, 45, 124, 94, 36, 92, 46, 38, 126, 35, 32, 9, 10, 13, 11, 12]
def specCh (c : Nat) : Bool := specL.contains c
def esc1 (c : Nat) : List Nat := if specCh c then [92, c] else [c]
def escL (l : List Nat) : List Nat := l.flatMap esc1
section
variable {w : World} {A : Around} {s : Shared} {p : Program} {loose : List Str} {mg mb : Str → Option Value} {h₀ : Heap} {L : Addr} {m : Str → Option Value} {Q E : Value → Shared → Prop}
/-- every key is one of the signs of specL -/
def keyIn (v : Value) : Bool := match v with
  | .int k _ => decide (0 ≤ k) && specL.contains k.toNat
  | _ => false
theorem no_key {c : Nat} (hc : c ∉ specL) {es : Array DictEntry} (h : es.toList.all (fun e => keyIn e.key) = true) : ∀ e ∈ es, Value.isInt (c : Int) e.key = false := fun e he => by
  have h1 := List.all_eq_true.mp h e (by simpa using he)
  unfold keyIn at h1
  split at h1
  · rename_i k t q
    rw [q]
    obtain ⟨h2, h3⟩ := Bool.and_eq_true_iff.mp h1
    have h2 := of_decide_eq_true h2
    have h3 := List.contains_iff_mem.mp h3
    cases z : Value.isInt (c : Int) (.int k t) with
    | false => rfl
    | true =>
      have : k = (c : Int) := eq_of_beq (show (k == (c : Int)) = true from z)
      subst this
      exact absurd h3 hc
  · cases h1
theorem tab46 {h : Heap} (X : (Mine.Ho.frag w.params).In h) : ∃ f, h.MapOf (intKind PG w) 46 f ∧ (∀ c : Nat, specCh c = true → ∃ t, f c = some (.str ⟨#[92, c]⟩ t)) ∧ (∀ c : Nat, specCh c = false → f c = none) := by
  have hX := X 46 _ (show (Mine.Ho.frag w.params).lookup 46 = some _ by k_is)
  refine ⟨fun k => findBy Value.isInt _ k, ⟨_, _, _, hX, ⟨rfl, rfl, rfl⟩, rfl, ?_, fun _ => rfl⟩, ?_, ?_⟩
  · intro e he
    simp only [List.mem_toArray, List.mem_cons, List.not_mem_nil, or_false] at he
    rcases he with rfl | rfl | rfl | rfl | rfl | rfl | rfl | rfl | rfl | rfl | rfl | rfl | rfl | rfl | rfl | rfl | rfl | rfl | rfl | rfl | rfl | rfl | rfl | rfl <;> exact ⟨_, intKind_is _ _ _ _, by kernel_rfl⟩
  · intro c hc
    have hc := List.contains_iff_mem.mp hc
    simp only [specL, List.mem_cons, List.not_mem_nil, or_false] at hc
    rcases hc with rfl | rfl | rfl | rfl | rfl | rfl | rfl | rfl | rfl | rfl | rfl | rfl | rfl | rfl | rfl | rfl | rfl | rfl | rfl | rfl | rfl | rfl | rfl | rfl <;> exact ⟨_, rfl⟩
  · intro c hc
    have hc : c ∉ specL := fun q => by rw [show specCh c = true from List.contains_iff_mem.mpr q] at hc; cases hc
    have e : ∀ (es : Array DictEntry), (∀ e ∈ es, Value.isInt (c : Int) e.key = false) → findBy Value.isInt es (c : Int) = none := fun es he => by
      unfold findBy
      rw [Array.find?_eq_none.mpr (fun x hx => by simp [he x hx])]; rfl
    exact e _ (no_key hc rfl)
theorem look_hit {f : Int → Option Value} {c : Nat} {t : Tok} {Q : Builtin.Str.Mapped → Shared → Prop} {x : Str} (hm : s.heap.MapOf (intKind PG w) 46 f) (hf : f c = some (.str x t)) (h : ∀ tk, Q (.text x) { s with toks := tk }) :
    wpAny (model PG w) A (Builtin.Str.tableLookup (.ref 46) c) Q E s := by
  unfold Builtin.Str.tableLookup
  refine wpAny_bind (wpAny_attempt (wpAny_bind (wpAny_mkInt ?_)))
  refine wpAny_getItem_of (s := { s with toks := s.toks + 1 }) (intKind_is _ _ _ _) hm hf ?_
  show wpAny _ _ (pure _) _ _ _
  exact wpAny_pure (h _)
theorem look_miss {f : Int → Option Value} {c : Nat} {Q : Builtin.Str.Mapped → Shared → Prop} (hh : A.handled = none) (hm : s.heap.MapOf (intKind PG w) 46 f) (hf : f c = none) (h : ∀ h' tk, Keeps s.heap h' → Q .keep { s with heap := h', toks := tk }) :
    wpAny (model PG w) A (Builtin.Str.tableLookup (.ref 46) c) Q E s := by
  unfold Builtin.Str.tableLookup
  refine wpAny_bind (wpAny_attempt (wpAny_bind (wpAny_mkInt ?_)))
  refine wpAny_getItem_missing_of (s := { s with toks := s.toks + 1 }) (intKind_is _ _ _ _) (by decide) hh hm hf fun h' e N => ?_
  obtain ⟨ob, t, g1, g2, g3⟩ := N.there
  refine wpAny_bind (wpAny_isInstance (T := "KeyError") (b := true) ⟨ob, g1, g2⟩ (by kernel_rfl) ?_)
  exact wpAny_bind (wpAny_rule (wpAny_pure (h h' _ N.keeps)))
theorem escL_len (l : List Nat) : (escL l).length ≤ 2 * l.length := by
  induction l with
  | nil => exact Nat.le_refl _
  | cons c l ih => simp only [escL, List.flatMap_cons, List.length_append, List.length_cons] at ih ⊢; have : (esc1 c).length ≤ 2 := by unfold esc1; split <;> simp
                   omega
theorem lookup_known {known : List (Nat × Option Nat)} (hk : ∀ c a, (c, a) ∈ known → a = some c ∧ specCh c = false) {c : Nat} {a : Option Nat} (e : known.lookup c = some a) : a = some c ∧ specCh c = false := by
  induction known with
  | nil => cases e
  | cons q l ih =>
    obtain ⟨c', a'⟩ := q
    rw [List.lookup_cons] at e
    split at e
    · rename_i hb
      have := eq_of_beq hb
      subst this
      cases e
      exact hk _ _ (.head _)
    · exact ih (fun c a q => hk c a (.tail _ q)) e
structure TrI (s : Shared) (x : Str) (rest : List Nat) (b : List Str × Nat × Bool × List (Nat × Option Nat) × Bool) (s' : Shared) : Prop where
  st : ∃ h' tk, s' = { s with heap := h', toks := tk } ∧ Keeps s.heap h'
  dn : ∃ done, done ++ rest = x.cps.toList ∧ b.1.reverse.flatMap (·.cps.toList) = escL done ∧ b.2.1 = (escL done).length
  kn : ∀ c a, (c, a) ∈ b.2.2.2.1 → a = some c ∧ specCh c = false
  dr : b.2.2.2.2 = false
theorem TrI.step {s s' : Shared} {x : Str} {c : Nat} {rest : List Nat} {b b' : List Str × Nat × Bool × List (Nat × Option Nat) × Bool} (I : TrI s x (c :: rest) b s') {h' : Heap} {tk : Nat} (k : Keeps s'.heap h')
    (e1 : b'.1 = ⟨(esc1 c).toArray⟩ :: b.1) (e2 : b'.2.1 = b.2.1 + (esc1 c).length) (e3 : b'.2.2.2.1 = b.2.2.2.1 ∨ (specCh c = false ∧ b'.2.2.2.1 = (c, some c) :: b.2.2.2.1)) (e4 : b'.2.2.2.2 = b.2.2.2.2) : TrI s x rest b' { s' with heap := h', toks := tk } := by
  obtain ⟨⟨h1, t1, rfl, k1⟩, ⟨done, d1, d2, d3⟩, kn, dr⟩ := I
  refine ⟨⟨h', tk, rfl, fun b o e => k _ _ (k1 b o e)⟩, ⟨done ++ [c], by simpa using d1, ?_, ?_⟩, ?_, e4.trans dr⟩
  · rw [e1]; simp [escL] at d2 ⊢; exact d2
  · rw [e2, d3]; simp [escL]
  · intro c' a' q
    rcases e3 with e3 | ⟨e0, e3⟩
    · rw [e3] at q; exact kn _ _ q
    · rw [e3] at q
      rcases List.mem_cons.mp q with q | q
      · cases q; exact ⟨rfl, e0⟩
      · exact kn _ _ q
theorem str_trans {x : Str} {t : Tok} (X : (Mine.Ho.frag w.params).In s.heap) (hh : A.handled = none) (hx : x.length < 1000000)
    (h : ∀ h' tk t', Keeps s.heap h' → Q (.str ⟨(escL x.cps.toList).toArray⟩ t') { s with heap := h', toks := tk }) :
    wpAny (model PG w) A (call (.builtin "str.translate") [.str x t, .ref 46]) Q E s := by
  refine wpAny_call_entry F.slot_str_translate (T := "str") rfl F.entry_str_translate ?_ (F.args_str_translate_2 _ _)
  obtain ⟨f, hm, f1, f2⟩ := tab46 X
  unfold Builtin.«str.translate»
  refine wpAny_bind ?_
  show wpAny _ _ (pure _) _ _ _
  refine wpAny_pure ?_
  dsimp only
  split
  · rename_i e
    refine wpAny_bind (wpAny_rule (wpAny_bind (wpAny_pure ?_)))
    have : x = ⟨(escL x.cps.toList).toArray⟩ := by
      have e : x.cps.size = 0 := eq_of_beq e
      obtain ⟨c⟩ := x
      have := Array.size_eq_zero_iff.mp e
      subst this; rfl
    refine wpAny_pure ⟨_, rfl, ?_⟩
    rw [this]
    exact h s.heap s.toks t fun _ _ e => e
  · refine wpAny_bind (PySem.MeetsSeq2.wpAny_forIn_array _ (TrI s x) _ ?_ ?_ _ _ ⟨⟨_, _, rfl, fun _ _ e => e⟩, ⟨[], rfl, rfl, rfl⟩, (fun _ _ q => by cases q), rfl⟩)
    · rintro c rest ⟨pieces, total, fast, known, drop⟩ s' I
      have I0 := I
      obtain ⟨⟨h1, t1, rfl, k1⟩, ⟨done, d1, d2, d3⟩, kn, dr⟩ := I
      dsimp only at d2 d3 kn dr ⊢
      subst dr d3
      have hm1 : h1.MapOf (intKind PG w) 46 f := by obtain ⟨o, es, ep, ho, r⟩ := hm; exact ⟨o, es, ep, k1 _ _ ho, r⟩
      have hl : Builtin.Str.tooLong (escL done).length = false := by
        have := escL_len done
        have e := congrArg List.length d1
        simp only [List.length_append, Array.length_toList] at e
        have : x.cps.size < 1000000 := hx
        refine decide_eq_false (Nat.not_lt.mpr ?_)
        simp only [sizeLine]
        omega
      rw [hl]
      simp only [Bool.false_eq_true, if_false]
      cases hs : specCh c with
      | true =>
        obtain ⟨t', ft⟩ := f1 c hs
        have e1 : esc1 c = [92, c] := by unfold esc1; rw [hs]; rfl
        cases fast with
        | true =>
          have hk : known.lookup c = none := by
            cases q : known.lookup c with
            | none => rfl
            | some a => have := lookup_known kn q; rw [hs] at this; cases this.2
          simp only [if_true, hk]
          refine wpAny_bind (look_hit hm1 ft fun tk => ?_)
          refine wpAny_bind (wpAny_pure ?_)
          refine wpAny_bind (wpAny_rule ?_)
          refine wpAny_bind (look_hit hm1 ft fun tk => ?_)
          exact wpAny_pure (I0.step (fun _ _ e => e) (by rw [e1]) (by rw [e1]; rfl) (.inl rfl) rfl)
        | false =>
          simp only [Bool.false_eq_true, if_false]
          refine wpAny_bind (look_hit hm1 ft fun tk => ?_)
          exact wpAny_pure (I0.step (fun _ _ e => e) (by rw [e1]) (by rw [e1]; rfl) (.inl rfl) rfl)
      | false =>
        have ft := f2 c hs
        have e1 : esc1 c = [c] := by unfold esc1; rw [hs]; rfl
        cases fast with
        | true =>
          simp only [if_true]
          cases q : known.lookup c with
          | none =>
            dsimp only
            refine wpAny_bind (look_miss hh hm1 ft fun h' tk k' => ?_)
            dsimp only
            refine wpAny_bind (wpAny_pure ?_)
            exact wpAny_pure (I0.step k' (by rw [e1]) (by rw [e1]; rfl) (.inr ⟨hs, rfl⟩) rfl)
          | some a =>
            obtain ⟨rfl, _⟩ := lookup_known kn q
            dsimp only
            refine wpAny_bind (wpAny_pure ?_)
            exact wpAny_pure (I0.step (fun _ _ e => e) (by rw [e1]) (by rw [e1]; rfl) (.inl rfl) rfl)
        | false =>
          simp only [Bool.false_eq_true, if_false]
          refine wpAny_bind (look_miss hh hm1 ft fun h' tk k' => ?_)
          exact wpAny_pure (I0.step k' (by rw [e1]) (by rw [e1]; rfl) (.inl rfl) rfl)
    · rintro ⟨pieces, total, fast, known, drop⟩ s' ⟨⟨h1, t1, rfl, k1⟩, ⟨done, d1, d2, d3⟩, kn, dr⟩
      dsimp only at d2 d3 ⊢
      simp only [List.append_nil] at d1
      subst d1 d3
      have hl : Builtin.Str.tooLong (escL x.cps.toList).length = false := by
        have := escL_len x.cps.toList
        have : x.cps.size < 1000000 := hx
        simp only [Array.length_toList] at *
        refine decide_eq_false (Nat.not_lt.mpr ?_)
        simp only [sizeLine]
        omega
      rw [hl]
      simp only [Bool.false_eq_true, if_false]
      have ep : ∀ (l : List Str) (acc : Array Nat), l.foldl (fun acc p => acc ++ p.cps) acc = acc ++ (l.flatMap (·.cps.toList)).toArray := by
        intro l
        induction l with
        | nil => intro acc; simp
        | cons a l ih => intro acc; rw [List.foldl_cons, ih, List.flatMap_cons, Array.append_assoc]; congr 1; apply Array.toList_inj.mp; simp
      rw [ep, d2]
      simp only [Array.empty_append]
      refine wpAny_bind (wpAny_mkStr ?_ ?_)
      · exact wpAny_pure ⟨_, rfl, h _ _ _ k1⟩
      · have := escL_len x.cps.toList
        have : x.cps.size < 1000000 := hx
        simp only [Array.length_toList] at *
        show (escL x.cps.toList).toArray.size ≤ sizeLine
        simp only [List.size_toArray, sizeLine]
        omega
end
end Mine
-- part Es
set_option maxHeartbeats 8000000
namespace Mine
open PySem PySem.W PySem.Calls PyProof.Rows
section
variable {w : World} {A : Around} {s : Shared} {p : Program} {loose : List Str} {mg mb : Str → Option Value} {h₀ : Heap} {L : Addr} {m : Str → Option Value} {Q E : Value → Shared → Prop}
theorem gm_translate {x : Str} {t : Tok} {pl : Sem Bool} {M : Model} {Q : Value × List Value → Shared → Prop} (h : Q (.builtin "str.translate", [.str x t]) s) : wpAny M A (getMethod (.str x t) (Str.ofString "translate") pl) Q E s := by
  k_with_none
  k_with "enter" => (k_dflt (case k1 => k_asm); (case k2 => exact TopRead.nolimit (by k_asm)); (case k3 => k_is); (case k4 => k_is); (case k6 => first | exact BindsTo.of_eq rfl | exact binds_K (by assumption) rfl (by k_is) rfl rfl rfl); (case k7 => exact locs rfl); (case c1 => exact rfl); (case c2 => exact rfl); (case c3 => exact rfl); (case c4 => decide))
  with_reducible exact GM.of (.str x t) (typeIs_str _ _ _) F.slot_str_translate F.type_str_translate GM.noRef h
theorem escape_c {x : Str} {t : Tok} (X : (Mine.Ho.frag w.params).In s.heap) (T : TopRead p loose mg mb s.heap) (hh : A.handled = none) (hd : A.depth < 900) (hx : x.length < 1000000)
    (h : ∀ h' tk t', Keeps s.heap h' → Q (.str ⟨(escL x.cps.toList).toArray⟩ t') { s with heap := h', toks := tk }) :
    wpAny (model PG w) A (call (.ref 56) [.str x t]) Q E s := by
  k_with "getMethod str" => with_reducible refine gm_translate ?_
  k_with "call builtin:str.translate" => (refine' str_trans ?k1 ?k2 ?k3 ?_; (case k1 => exact Frag.In.keeps (by assumption) (Fr.keep (by assumption))); (case k2 => (show Around.handled _ = _; assumption)); (case k3 => assumption); intro h' tk' t' K')
  refine' call_fn (binds := [(Str.ofString "pattern", .str x t)]) ?k1 ?k2 ?k3 ?k4 ?k5 ?k6 ?k7 ?_ ?c1 ?c2 ?c3 ?c4
  walk_at "enter"
  case k5 => exact Nat.lt_trans hd (by decide)
  intro h₁ tk F N
  k_fold
  k_steps
  rename Keeps h₁ _ => K1
  exact h _ _ _ fun b o e => K1 b o (F.keep b o e)
end
end Mine
-- part Rx
set_option maxHeartbeats 8000000
namespace Mine
open PySem PySem.W PySem.Calls PyProof.Rows
def rxCode : Array Nat := #[14, 17, 4, 1, 1, 21, 9, 0, 604043296, 1, 0, 0, 0, 0, 0, 8, 4, 0, 13, 14, 21, 9, 0, 604043296, 1, 0, 0, 0, 0, 0, 8, 4, 0, 1]
def safeCh (c : Nat) : Bool := Sre.isWord c || [37, 43, 44, 45, 46, 47, 58, 61, 64].contains c
def rxBit (c : Nat) : Bool := decide (c < 256) && (#[0, 604043296, 1, 0, 0, 0, 0, 0].getD (c / 32) 0).testBit (c % 32)
theorem rxBit_eq (c : Nat) : (rxBit c || (Sre.isWord c != false)) = safeCh c := by
  by_cases h : c < 256
  · have : ∀ c, c < 256 → (rxBit c || (Sre.isWord c != false)) = safeCh c := by decide +kernel
    exact this c h
  · unfold safeCh rxBit
    rw [decide_eq_false h, Bool.false_and, Bool.false_or, Bool.bne_false]
    have : [37, 43, 44, 45, 46, 47, 58, 61, 64].contains c = false := by
      rw [Bool.eq_false_iff]; intro q
      have q := List.contains_iff_mem.mp q
      simp only [List.mem_cons, List.not_mem_nil, or_false] at q
      omega
    rw [this, Bool.or_false]
theorem charset_eq {c k : Nat} (hk : k = 6 ∨ k = 21) : (decide (c < 256) && (rxCode.getD (k + (1 + c / 32)) 0).testBit (c % 32)) = rxBit c := by
  by_cases h : c < 256
  · rcases hk with rfl | rfl
    · have : ∀ c, c < 256 → (decide (c < 256) && (rxCode.getD (6 + (1 + c / 32)) 0).testBit (c % 32)) = rxBit c := by decide +kernel
      exact this c h
    · have : ∀ c, c < 256 → (decide (c < 256) && (rxCode.getD (21 + (1 + c / 32)) 0).testBit (c % 32)) = rxBit c := by decide +kernel
      exact this c h
  · unfold rxBit; rw [decide_eq_false h, Bool.false_and, Bool.false_and]
theorem inSet_eq {c i : Nat} (seen : Sre.Seen) (hi : i = 5 ∨ i = 20) : ∃ seen', Sre.inSet rxCode c 34 i true seen = .ok (!safeCh c, seen') := by
  have key : ∀ (b1 b2 : Bool) (s1 s2 s3 : Sre.Seen), ∃ seen', (if b1 = true then Except.ok (false, s1) else if b2 = true then Except.ok (false, s2) else .ok (true, s3) : Except String (Bool × Sre.Seen)) = .ok (!(b1 || b2), seen') := by
    intro b1 b2 s1 s2 s3
    cases b1 <;> cases b2 <;> exact ⟨_, rfl⟩
  rw [← rxBit_eq]
  rcases hi with rfl | rfl
  · rw [← charset_eq (.inl rfl)]; exact key _ _ _ _ _
  · rw [← charset_eq (.inr rfl)]; exact key _ _ _ _ _
theorem admitted_eq (m : Sre.M) (hc : m.code = rxCode) : ∀ fuel s seen, (∃ seen', m.admitted fuel s seen = .ok (none, seen') ∧ ∀ i, s ≤ i → i < m.lim → i < s + fuel → safeCh (m.text.getD i 0) = true) ∨
    (∃ s' seen', m.admitted fuel s seen = .ok (some s', seen') ∧ s' < m.lim ∧ s ≤ s' ∧ safeCh (m.text.getD s' 0) = false) := by
  intro fuel
  induction fuel with
  | zero => intro s seen; exact .inl ⟨seen, rfl, fun i h1 h2 h3 => by omega⟩
  | succ fuel ih =>
    intro s seen
    obtain ⟨seen1, e⟩ := inSet_eq (c := m.text.getD s 0) seen (.inl rfl : 5 = 5 ∨ 5 = 20)
    rw [Sre.M.admitted]
    by_cases hs : s ≥ m.lim
    · rw [if_pos hs]; exact .inl ⟨seen, rfl, fun i h1 h2 h3 => by omega⟩
    · rw [if_neg hs, hc, show rxCode.size = 34 from rfl, e]
      cases q : safeCh (m.text.getD s 0) with
      | false => exact .inr ⟨s, seen1, rfl, by omega, Nat.le_refl _, q⟩
      | true =>
        rcases ih (s + 1) seen1 with ⟨x, h1, h2⟩ | ⟨x, y, h1, h2, h3, h4⟩
        · refine .inl ⟨x, h1, fun i g1 g2 g3 => ?_⟩
          by_cases z : i = s
          · rw [z]; exact q
          · exact h2 i (by omega) g2 (by omega)
        · exact .inr ⟨x, y, h1, h2, by omega, h4⟩
theorem run_matched (m : Sre.M) (hc : m.code = rxCode) (h1 : m.frames = []) (h2 : m.weight = 0) (h3 : m.answer = none) (h4 : m.outcome = none) (h5 : m.pc = 18) (h6 : m.mustAdvance = false) (h7 : m.wholeText = false) {s : Nat}
    (hs : s < m.lim) (hx : safeCh (m.text.getD s 0) = false) : ∃ o, ((m.attemptAt s true).runFor 4) = o ∧ o.outcome = some .matched := by
  obtain ⟨code, text, lim, start, lastStart, wholeText, mustAdvance, pc, pos, handed, outermost, marks, lastmark, lastindex, loops, inner, frames, weight, answer, seen, outcome⟩ := m
  dsimp only at hc h1 h2 h3 h4 h5 h6 h7 hs hx
  subst hc h1 h2 h3 h4 h5 h6 h7
  refine ⟨_, rfl, ?_⟩
  obtain ⟨seen1, e⟩ := inSet_eq (c := text.getD s 0) (seen.add 13) (.inr rfl : 20 = 5 ∨ 20 = 20)
  rw [hx] at e
  have a1 : Sre.accepts rxCode 18 (text.getD s 0) (seen.add 13) = .ok (true, seen1) := e
  rw [Sre.M.runFor, if_neg (by intro q; cases q)]
  have st : ∀ (m : Sre.M), m.outcome = none → m.answer = none → m.pc < m.code.size → m.step = m.exec := fun m e1 e2 e3 => by
    unfold Sre.M.step; rw [e1, e2, if_pos e3]; rfl
  rw [st _ rfl rfl (show 18 < 34 by decide)]
  have e1 : (Sre.M.attemptAt ⟨rxCode, text, lim, start, lastStart, false, false, 18, pos, handed, outermost, marks, lastmark, lastindex, loops, inner, [], 0, none, seen, none⟩ s true).exec
     = ⟨rxCode, text, lim, s, lastStart, false, false, 33, s + 1, s, true, marks, -1, -1, loops, inner, [{ wait := .nextStart, pc := 18, pos := s, outermost := true }], 1, none, seen1, none⟩ := by
    show (if s ≥ lim then _ else match Sre.accepts rxCode 18 (text.getD s 0) (seen.add 13) with | .error why => _ | .ok (false, seen) => _ | .ok (true, seen) => _) = _
    rw [if_neg (Nat.not_le.mpr hs), a1]
    rfl
  rw [e1]
  rfl
theorem search_eq (text : Array Nat) (hn : 0 < text.size) :
    if text.toList.all safeCh then ((Sre.forSearch rxCode text 0 0 text.size false).runFor 4).outcome = some .failed
    else ((Sre.forSearch rxCode text 0 0 text.size false).runFor 4).outcome = some .matched := by
  let m0 : Sre.M := { code := rxCode, text := text, lim := text.size, start := 0, lastStart := text.size, pc := 18, pos := 0, handed := 0, marks := #[], seen := ({} : Sre.Seen).add 14 }
  have e0 : Sre.forSearch rxCode text 0 0 text.size false = m0.attemptFrom 0 true := by
    show (if (decide (0 > text.size) || decide (text.size - 0 < 1)) = true then _ else _) = _
    rw [decide_eq_false (show ¬ 0 > text.size by omega), decide_eq_false (show ¬ text.size - 0 < 1 by omega)]
    rfl
  rw [e0]
  have e1 : m0.attemptFrom 0 true = match m0.admitted (text.size + 1 - 0) 0 m0.seen with
      | .ok (some s, seen) => { m0 with mustAdvance := false, seen }.attemptAt s true
      | .ok (none, seen) => { m0 with seen }.say false
      | .error why => m0.stick why := rfl
  rw [e1]
  rcases admitted_eq m0 rfl (text.size + 1 - 0) 0 m0.seen with ⟨x, h1, h2⟩ | ⟨x, y, h1, h2, h3, h4⟩
  · rw [h1, if_pos]
    · rfl
    · refine List.all_eq_true.mpr fun c hc => ?_
      obtain ⟨i, hi, rfl⟩ := List.getElem_of_mem hc
      have hi' : i < text.size := by simpa using hi
      have := h2 i (by omega) hi' (by omega)
      have e : text.getD i 0 = text[i] := by simp [Array.getD, hi']
      rw [show m0.text.getD i 0 = text[i] from e] at this
      simpa using this
  · rw [h1, if_neg]
    · dsimp only
      obtain ⟨o, e, r⟩ := run_matched { m0 with mustAdvance := false, seen := y } rfl rfl rfl rfl rfl rfl rfl rfl (s := x) h2 h4
      rw [e]; exact r
    · intro q
      have hx : x < text.size := h2
      have := List.all_eq_true.mp q text[x] (by simp)
      have e : text.getD x 0 = text[x] := by simp [Array.getD, hx]
      rw [show m0.text.getD x 0 = text[x] from e, this] at h4
      cases h4
end Mine
-- part Rs
set_option maxHeartbeats 8000000
namespace Mine
open PySem PySem.W PySem.Calls PyProof.Rows
def sigS : Manifest.Signature := ⟨.keywords, "Pattern.search", "search", .self, [⟨"string", .posOrKw, true⟩, ⟨"pos", .posOrKw, false⟩, ⟨"endpos", .posOrKw, false⟩]⟩
theorem sig_search : Manifest.signature? "re.Pattern.search" = some sigS := by kernel_rfl
theorem kind_search : builtinKind "re.Pattern.search" = some .method := by rw [builtinKind_eq_fast]; kernel_rfl
theorem var_search : Manifest.varargsMethods.contains "re.Pattern.search" = false := by decide +kernel
theorem sub_search : isSubtype (.type "re.Pattern") (.type "module") = pure false := by rw [isSubtype_type]; kernel_rfl
theorem ca_search (x : Value) : Bind.checkArgs "re.Pattern.search" { sigS with full := s!"{Bind.lastOf "re.Pattern"}.{Bind.lastOf "re.Pattern.search"}" } ⟨[.ref 68, x], []⟩ = pure () := by kernel_rfl
theorem entry_search : entryFor table "re.Pattern.search" = some Builtin.«re.Pattern.search» := entryFor_of_tree (by kernel_rfl)
theorem plain_search : plainId "re.Pattern.search" = true := by decide +kernel
theorem named_search (x : Value) : Builtin.Re.reNamed "re.Pattern.search" "search" ["string", "pos", "endpos"] 1 [x] [] = pure [some x, none, none] := by rfl
section
variable {w : World} {A : Around} {s : Shared} {p : Program} {loose : List Str} {mg mb : Str → Option Value} {h₀ : Heap} {L : Addr} {m : Str → Option Value} {Q E : Value → Shared → Prop}
theorem check_search {M : Model} {x : Value} {vs} {o : Obj} {Q : Unit → Shared → Prop} (ho : s.heap.get? 68 = some o) (hc : o.cls = .type "re.Pattern") (hdt : o.data = .fields vs) (h : Q () s) :
    wpAny M A (checkBoundCall "re.Pattern.search" ⟨[.ref 68, x], []⟩) Q E s := by
  unfold checkBoundCall
  rw [sig_search, kind_search]
  dsimp only
  rw [if_neg (by decide)]
  refine wpAny_bind (wpAny_isInstance (T := "re.Pattern") ⟨o, ho, hc⟩ sub_search ?_)
  rw [var_search, if_neg (by decide)]
  refine wpAny_bind ?_
  refine wpAny_bind ?_
  unfold loadHead
  refine wpAny_loadPart ho ?_
  rw [hdt]
  refine wpAny_pure ?_
  rw [if_neg (by intro q; cases q)]
  refine wpAny_bind (wpAny_typeOf (T := "re.Pattern") ⟨o, ho, hc⟩ ?_)
  exact wpAny_of_eq (ca_search x) h
theorem run_end {M : Model} {m : Sre.M} {b : Bool} {Q : Option Sre.M → Shared → Prop} (ho : (m.runFor 4).outcome = some (if b then .matched else .failed)) (h : ∀ m', Q (if b then some m' else none) s) :
    wpAny M A (Builtin.Re.reRunToEnd m) Q E s := by
  unfold Builtin.Re.reRunToEnd
  rw [show (2 : Nat) ^ 64 = 18446744073709551615 + 1 from rfl, Builtin.Re.reDrive]
  refine wpAny_bind ?_
  show wpAny _ _ (if (m.runFor 4).outcome.isSome = true then pure (m.runFor 4) else _) _ _ _
  rw [ho]
  refine wpAny_ite ?_
  rw [if_pos (by rfl)]
  refine wpAny_pure ?_
  refine wpAny_bind (wpAny_forIn_list _ (fun _ _ s' => s' = s) _ ?_ ?_ _ _ rfl)
  · rintro i rest u s' rfl
    split
    · exact wpAny_bind (wpAny_rule (wpAny_pure rfl))
    · exact wpAny_pure rfl
  · rintro u s' rfl
    rw [ho]
    cases b with
    | true => exact wpAny_pure (h _)
    | false => exact wpAny_pure (h (m.runFor 4))
theorem target_search {M : Model} {x : Str} {t : Tok} {vs its : Array Value} {o o' : Obj} {n : Nat} {Q : Builtin.Re.ReTarget → Shared → Prop} (ho : s.heap.get? 68 = some o) (hdt : o.data = .fields vs) (h6 : vs.getD 6 .none = rawInt 0) (h5 : vs.getD 5 .none = .ref 67) (h2 : vs.getD 2 .none = rawInt 0)
    (ho' : s.heap.get? 67 = some o') (hdt' : o'.data = .seq its n) (hc : (its.map Builtin.Re.reRawOf).map (·.toNat) = rxCode) (hx : x.length < 1000000)
    (h : Q { pattern := .ref 68, string := .str x t, code := rxCode, text := x.cps, kind := 0, groups := 0, pos := 0, lim := x.cps.size } s) :
    wpAny M A (Builtin.Re.reTarget "re.Pattern.search" "search" ⟨[.ref 68, .str x t], []⟩) Q E s := by
  unfold Builtin.Re.reTarget
  dsimp only
  refine wpAny_bind (wpAny_of_eq (named_search _) ?_)
  dsimp only
  refine wpAny_bind (wpAny_pure ?_)
  refine wpAny_bind (wpAny_pure ?_)
  refine wpAny_bind (wpAny_fieldsOf ho hdt ?_)
  refine wpAny_bind ?_
  show wpAny _ _ (pure (x.cps, 0)) _ _ _
  refine wpAny_pure ?_
  rw [h6, h5, h2]
  dsimp only
  rw [if_neg (by decide), if_neg (by decide)]
  refine wpAny_bind (wpAny_pure ?_)
  refine wpAny_bind ?_
  unfold Builtin.Re.reRawItems
  refine wpAny_bind (wpAny_seqItems ho' hdt' (wpAny_pure ?_))
  refine wpAny_pure ?_
  have : min (2 ^ 63 - 1 : Int).toNat x.cps.size = x.cps.size := by have : x.cps.size < 1000000 := hx; omega
  rw [Option.getD_some, hc, this]
  exact h
theorem callWith_771 {pos : Pos} {first : List Value} {env : Env} {e : Expr} {rest : List Expr} {M : Model} (_X : (Mine.Ho.frag w.params).In h₀)
    (h : wpAny M A (spliced (backTo pos (starEach (e :: rest) env))) (fun vs s₁ => (Mine.Ho.frag w.params).In s₁.heap ∧ wpAny M A (call (.ref 771) (first ++ vs)) Q E s₁) E s)
    (he : starEach (e :: rest) env = (false, eval e env) :: starEach rest env := by rfl) (hplain : (backTo pos (starEach rest env)).any (·.1) = false := by rfl) :
    wpAny M A (callWith pos (.ref 771) first (backTo pos (starEach (e :: rest) env)) []) Q E s := by
  rw [he] at h ⊢
  exact callWith_of (P := fun h => (Mine.Ho.frag w.params).In h) (by show ((false || (backTo pos (starEach rest env)).any (·.1)) || false) = false; rw [hplain]; rfl)
    (fun h X => ⟨.machine, .inr (.inl rfl), Looks.of_peek X (by kernel_rfl)⟩) (evalArgs_plain h)
theorem search_c {x : Str} {t : Tok} (X : (Mine.Ho.frag w.params).In s.heap) (hx : x.length < 1000000) (hn : 0 < x.length)
    (h0 : x.cps.toList.all safeCh = true → Q .none s)
    (h1 : x.cps.toList.all safeCh = false → ∀ h' a, Keeps s.heap h' → Q (.ref a) { s with heap := h' }) :
    wpAny (model PG w) A (call (.ref 771) [.str x t]) Q E s := by
  have H1 := X 771 _ (show (Mine.Ho.frag w.params).lookup 771 = some _ by k_is)
  have H2 := X 68 _ (show (Mine.Ho.frag w.params).lookup 68 = some _ by k_is)
  have H3 := X 67 _ (show (Mine.Ho.frag w.params).lookup 67 = some _ by k_is)
  refine wpAny_call (codeAny_of_tree ?_)
  refine wpAny_bind (wpAny_load H1 ?_)
  show wpAny _ _ (do checkBoundCall "re.Pattern.search" ⟨[.ref 68, .str x t], []⟩; again (.builtin "re.Pattern.search" ⟨[.ref 68, .str x t], []⟩)) _ _ s
  refine wpAny_bind (check_search H2 rfl rfl (wpAny_pure ⟨plainId_quiet plain_search _, codeAny_builtin entry_search ?_⟩))
  rw [Around.under_plainId plain_search _]
  unfold Builtin.«re.Pattern.search»
  refine wpAny_bind (target_search H2 rfl rfl rfl rfl H3 rfl (by apply Array.toList_inj.mp; rw [Array.toList_map, Array.toList_map]; rfl) hx ?_)
  unfold Builtin.Re.reAnswer
  have hs := search_eq x.cps hn
  cases e : x.cps.toList.all safeCh with
  | true =>
    rw [if_pos e] at hs
    refine wpAny_bind (run_end (b := false) hs fun m' => ?_)
    exact wpAny_pure (h0 e)
  | false =>
    rw [if_neg (by rw [e]; decide)] at hs
    refine wpAny_bind (run_end (b := true) hs fun m' => ?_)
    dsimp only
    unfold Builtin.Re.reNewMatch
    refine wpAny_bind ?_
    show wpAny _ _ (do let y ← newTuple _; newFields "re.Match" [.str x t, .ref 68, rawInt 0, rawInt _, rawInt _, y]) _ _ _
    refine wpAny_bind (wpAny_newTuple ?_ (show 2 ≤ sizeLine by decide))
    unfold newFields
    refine wpAny_newObj_type ?_ (show 6 ≤ sizeLine + 2 by decide)
    refine wpAny_pure (h1 e _ _ fun b o q => ?_)
    exact Heap.get?_push_of_some _ (Heap.get?_push_of_some _ q)
end
end Mine
-- part Pu
set_option maxHeartbeats 8000000
namespace Mine
open PySem PySem.W PySem.Calls PyProof.Rows
def joinL (sep : List Nat) : List (List Nat) → List Nat
  | [] => []
  | [a] => a
  | a :: b :: r => a ++ sep ++ joinL sep (b :: r)
def splitL (c : Nat) : List Nat → List (List Nat)
  | [] => [[]]
  | x :: xs => if x = c then [] :: splitL c xs else match splitL c xs with
    | [] => [[x]]
    | p :: ps => (x :: p) :: ps
theorem splitL_ne (c : Nat) : ∀ l, splitL c l ≠ []
  | [] => by simp [splitL]
  | x :: xs => by
    rw [splitL]; split
    · simp
    · split <;> simp
theorem joinL_cons {sep a : List Nat} {r : List (List Nat)} (h : r ≠ []) : joinL sep (a :: r) = a ++ sep ++ joinL sep r := by
  cases r with
  | nil => exact absurd rfl h
  | cons b r => rfl
theorem joinL_head {sep p : List Nat} {x : Nat} {r : List (List Nat)} : joinL sep ((x :: p) :: r) = x :: joinL sep (p :: r) := by
  cases r <;> rfl
/-- pieces that bear no c, glued with c: the cut gives them back -/
theorem splitL_join (c : Nat) : ∀ (ps : List (List Nat)), ps ≠ [] → (∀ p ∈ ps, c ∉ p) → splitL c (joinL [c] ps) = ps := by
  intro ps
  induction ps with
  | nil => intro h; exact absurd rfl h
  | cons a r ih =>
    intro _ hf
    have key : ∀ (a : List Nat) (q : List Nat) (ps : List (List Nat)), c ∉ a → splitL c q = ps → ps ≠ [] → splitL c (a ++ q) = match ps with | [] => [] | p :: r => (a ++ p) :: r := by
      intro a
      induction a with
      | nil => intro q ps _ e hn; cases ps with
        | nil => exact absurd rfl hn
        | cons p r => simpa using e
      | cons x a iha =>
        intro q ps hx e hn
        have := iha q ps (fun h => hx (.tail _ h)) e hn
        rw [List.cons_append, splitL, if_neg (show ¬ x = c from fun h => hx (by rw [h]; exact .head _)), this]
        cases ps with
        | nil => exact absurd rfl hn
        | cons p r => rfl
    cases r with
    | nil =>
      have := key a [] [[]] (hf a (.head _)) rfl (by simp)
      simpa [joinL] using this
    | cons b r =>
      have h1 := ih (by simp) (fun p hp => hf p (.tail _ hp))
      have h2 : splitL c ([c] ++ joinL [c] (b :: r)) = [] :: b :: r := by
        show splitL c (c :: joinL [c] (b :: r)) = _
        rw [splitL, if_pos rfl, h1]
      have := key a _ _ (hf a (.head _)) h2 (by simp)
      rw [joinL, List.append_assoc, this]
      simp
theorem joinL_split (c : Nat) (z : List Nat) : ∀ l, joinL z (splitL c l) = l.flatMap fun x => if x = c then z else [x]
  | [] => rfl
  | x :: xs => by
    have ih := joinL_split c z xs
    have hn := splitL_ne c xs
    rw [splitL, List.flatMap_cons]
    by_cases h : x = c
    · rw [if_pos h, joinL_cons hn, ih, if_pos h]; rfl
    · rw [if_neg h, if_neg h]
      cases e : splitL c xs with
      | nil => exact absurd e hn
      | cons p ps => rw [e] at ih; rw [joinL_head, ih]; rfl
theorem join_toList (sep : Str) : ∀ ts : List Str, (Str.join sep ts).cps.toList = joinL sep.cps.toList (ts.map (·.cps.toList))
  | [] => rfl
  | [a] => rfl
  | a :: b :: r => by
    have := join_toList sep (b :: r)
    show ((a ++ sep ++ Str.join sep (b :: r)) : Str).cps.toList = _
    show (a.cps ++ sep.cps ++ (Str.join sep (b :: r)).cps).toList = _
    rw [Array.toList_append, Array.toList_append, this]; rfl
theorem split_toList (x : Str) (c : Nat) : (Txt.split x ⟨#[c]⟩).map (·.cps.toList) = splitL c x.cps.toList := by
  have h1 := join_toList ⟨#[c]⟩ (Txt.split x ⟨#[c]⟩)
  rw [StrLaws.join_split] at h1
  have h2 : (Txt.split x ⟨#[c]⟩).map (·.cps.toList) ≠ [] := by
    have := split_pos x ⟨#[c]⟩
    intro e
    rw [List.map_eq_nil_iff] at e
    rw [e] at this; exact absurd this (by decide)
  have := splitL_join c _ h2 (fun p hp => by
    obtain ⟨q, hq, rfl⟩ := List.mem_map.mp hp
    exact StrLaws.split_free x c q hq)
  rw [← this, h1]
theorem str_eta (x : Str) : x = ⟨x.cps.toList.toArray⟩ := by cases x; rfl
theorem replace_flat (x z : Str) (c : Nat) : Txt.replace x ⟨#[c]⟩ z = ⟨(x.cps.toList.flatMap fun y => if y = c then z.cps.toList else [y]).toArray⟩ := by
  rw [StrLaws.replace_one, str_eta (Str.join z _), join_toList, split_toList, joinL_split]
end Mine
-- part Qu
set_option maxHeartbeats 8000000
namespace Mine
open PySem PySem.W PySem.Calls PyProof.Rows
/-- what quote says -/
def quoQ (c : Nat) : List Nat := if c = 39 then [39, 34, 39, 34, 39] else [c]
def quoL (l : List Nat) : List Nat := if l.all safeCh then (if l = [] then [39, 39] else l) else 39 :: (l.flatMap quoQ ++ [39])
section
variable {w : World} {A : Around} {s : Shared} {p : Program} {loose : List Str} {mg mb : Str → Option Value} {h₀ : Heap} {L : Addr} {m : Str → Option Value} {Q E : Value → Shared → Prop}
theorem k_search {x : Str} {t : Tok} (F : Fr h₀ L s.heap m) (N : News h₀ L s.heap []) (X : (Mine.Ho.frag w.params).In h₀) (hx : x.length < 1000000) (hn : 0 < x.length)
    (h0 : x.cps.toList.all safeCh = true → Q .none s)
    (h1 : x.cps.toList.all safeCh = false → ∀ h' a, Fr h₀ L h' m → News h₀ L h' [] → Q (.ref a) { s with heap := h' }) :
    wpAny (model PG w) A (call (.ref 771) [.str x t]) Q E s :=
  search_c (X.keeps F.keep) hx hn h0 fun e h' a k => h1 e h' a (frK F k) (newsK N k)
theorem quoQ_len (l : List Nat) : (l.flatMap quoQ).length ≤ 5 * l.length := by
  k_with_none
  k_with "apart" => skip
  k_with "enter" => (k_dflt (case k1 => k_asm); (case k2 => exact TopRead.nolimit (by k_asm)); (case k3 => k_is); (case k4 => k_is); (case k6 => first | exact BindsTo.of_eq rfl | exact binds_K (by assumption) rfl (by k_is) rfl rfl rfl); (case k7 => exact locs rfl); (case c1 => exact rfl); (case c2 => exact rfl); (case c3 => exact rfl); (case c4 => decide))
  k_with "call ref" => ((with_reducible show wpAny _ _ (call (Value.ref 771) _) _ _ _); refine' k_search ?k0 ?kn ?k1 ?k2 ?k3 ?_ ?_; (case k0 => k_asm); (case kn => k_asm); (case k1 => k_asm); (case k2 => assumption); (case k3 => omega))
  k_with "callWith ref" => ((with_reducible show wpAny _ _ (callWith _ (Value.ref 771) _ _ _) _ _ _); refine' callWith_771 ?k1 ?_; (case k1 => k_asm); k_whole)
  induction l with
  | nil => exact Nat.le_refl _
  | cons c l ih => simp only [List.flatMap_cons, List.length_append, List.length_cons]; have : (quoQ c).length ≤ 5 := by unfold quoQ; split <;> simp
                   omega
theorem replace_q (x : Str) : Txt.replace x (Str.ofString "'") (Str.ofString "'\"'\"'") = ⟨(x.cps.toList.flatMap quoQ).toArray⟩ := replace_flat x (Str.ofString "'\"'\"'") 39
theorem replace_q_len (x : Str) : (Txt.replace x (Str.ofString "'") (Str.ofString "'\"'\"'")).length ≤ 5 * x.length := by
  rw [replace_q]
  have := quoQ_len x.cps.toList
  show (x.cps.toList.flatMap quoQ).toArray.size ≤ 5 * x.cps.size
  simpa using this
theorem quote_c {x : Str} {t : Tok} (X : (Mine.Ho.frag w.params).In s.heap) (T : TopRead p loose mg mb s.heap) (hd : A.depth < 900) (hx : x.length < 1000000)
    (h : ∀ h' tk t', Keeps s.heap h' → Q (.str ⟨(quoL x.cps.toList).toArray⟩ t') { s with heap := h', toks := tk }) :
    wpAny (model PG w) A (call (.ref 778) [.str x t]) Q E s := by
  refine' call_fn (binds := [(Str.ofString "s", .str x t)]) ?k1 ?k2 ?k3 ?k4 ?k5 ?k6 ?k7 ?_ ?c1 ?c2 ?c3 ?c4
  walk_at "enter"
  case k5 => exact Nat.lt_trans hd (by decide)
  intro h₁ tk F N
  k_fold
  have hR := replace_q_len x
  have hq : ∀ (v : Str) h' tk t', v.cps.toList = quoL x.cps.toList → Keeps s.heap h' → Q (.str v t') { s with heap := h', toks := tk } := fun v h' tk t' e k => by rw [str_eta v, e]; exact h _ _ _ k
  k_steps
  all_goals (rename Fr s.heap _ _ _ => F1)
  · rename (x.cps.toList.all safeCh = true) => hS
    rename ((x.length : Int) ≠ 0) => hn
    refine hq x _ _ _ ?_ F1.keep
    have : x.cps.toList ≠ [] := fun e => hn (by show ((x.cps.size : Nat) : Int) = 0; rw [← Array.length_toList, e]; rfl)
    rw [quoL, if_pos hS, if_neg this]
  · rename (x.cps.toList.all safeCh = false) => hS
    refine hq _ _ _ _ ?_ F1.keep
    rw [quoL, hS, if_neg (by decide), replace_q]
    show ((#[39] ++ (x.cps.toList.flatMap quoQ).toArray) ++ #[39]).toList = _
    simp
  · rename ((x.length : Int) = 0) => hn
    refine hq _ _ _ _ ?_ F1.keep
    have : x.cps.toList = [] := by
      have : x.cps.size = 0 := Int.ofNat.inj hn
      exact List.eq_nil_of_length_eq_zero this
    rw [quoL, this]; rfl
end
end Mine
-- part Gq
set_option maxHeartbeats 8000000
namespace Mine
open PySem PySem.W PySem.Calls PyProof.Rows
section
variable {w : World} {A : Around} {s : Shared} {p : Program} {loose : List Str} {mg mb : Str → Option Value} {h₀ : Heap} {L : Addr} {m : Str → Option Value} {Q E : Value → Shared → Prop}
/-- quote(arg) in a frame of which only its names are known -/
theorem elt_quote {env : Env} {m₂ : Str → Option Value} {p1 p2 p3 : Pos} {x : Str} {t : Tok} (X : (Mine.Ho.frag w.params).In s.heap) (T : TopRead p loose mg mb s.heap) (hn : s.heap.Ns env.locals m₂) (hv : m₂ (Str.ofString "arg") = some (.str x t))
    (hg : env.globals = mainGlobals) (hk : env.scope.kind = .function) (h1 : env.kindOf (Str.ofString "quote") = some .globalImplicit) (h2 : env.kindOf (Str.ofString "arg") = some .local) (hd : A.depth < 900) (hx : x.length < 1000000)
    (h : ∀ h' tk t', Keeps s.heap h' → Q (.str ⟨(quoL x.cps.toList).toArray⟩ t') { s with heap := h', toks := tk }) :
    wpAny (model PG w) A (eval (.Call (.Name (Str.ofString "quote") p1) [.Name (Str.ofString "arg") p2] [] p3) env) Q E s := by
  refine Call_ ?_
  refine Calls.Name_function_global hk h1 (Calls.loadGlobal_global (mg := mg) (by rw [hg]; exact T.g) (mg_of X T.g (by k_is)) ?_) (by decide)
  refine callWith_K (K := Mine.Ho.frag w.params) X (by k_is) ?_
  refine spliced_cons (wpAny_Name (wpAny_loadName_local hk h2 hn hv ?_) (by decide))
  refine spliced_nil ⟨X, ?_⟩
  exact quote_c X T hd hx h
theorem code769 {h : Heap} (X : (Mine.Ho.frag w.params).In h) : CodeHd h 769 765 := by
  have H := X 769 _ (show (Mine.Ho.frag w.params).lookup 769 = some _ by k_is)
  exact ⟨_, _, _, _, _, _, _, _, _, H, rfl, rfl, rfl, rfl, rfl, rfl, rfl, rfl, by decide⟩
theorem gen_quote {env : Env} {wl : Addr} {items : Array Value} {ts : List Str} {p1 p2 p3 px pos : Pos} {iter : Expr} {scope : Scope} {bm : Addr} {ob : Obj} {news : List (Addr × Obj)}
    (F : Fr h₀ L s.heap m) (N : News h₀ L s.heap ((765, tabObj #[]) :: news)) (X₀ : (Mine.Ho.frag w.params).In h₀) (T₀ : TopRead p loose mg mb h₀) (M : BMod h₀ mainGlobals mg bm ob) (hcode : env.code = .ref 769) (hgl : env.globals = mainGlobals)
    (hh : A.handled = none) (hd : A.depth < 800) (G : AllBare s.gens) (hl : s.heap.IsList wl items) (hi : ∀ i v, items[i]? = some v → ∃ t, v = Value.str (ts.getD i "") t) (hlen : ∀ i, (ts.getD i "").length < 1000000)
    (hnews : ∀ q ∈ news, q.1 ≠ 765)
    (hco : scope.isCoroutine = false) (hclos : closureFor scope env = pure []) (hcell : ∀ y ∈ scope.names, y.2 ≠ .cell) (h0 : scope.names.lookup (".0" : Str) = some NameKind.local)
    (hx : scope.names.lookup (Str.ofString "arg") = some .local) (hqn : scope.names.lookup (Str.ofString "quote") = some .globalImplicit) (hkind : scope.kind = .function)
    (hiter : ∀ (Q' : Value → Shared → Prop), Q' (.ref wl) s → wpAny (model PG w) A (eval iter env) Q' E s)
    (h : ∀ a s₅ ps', Fr h₀ L s₅.heap m → News h₀ L s₅.heap ((765, tabObj ps') :: news) → AllBare s₅.gens → s₅.os = s.os →
      Gen PG w A L a (passing (fun _ => true) items.size 0).length (fun j y => ∃ i, (passing (fun _ => true) items.size 0)[j]? = some i ∧ ∃ t, y = Value.str ⟨(quoL (ts.getD i "").cps.toList).toArray⟩ t) s₅ → Q (.ref a) s₅)
    (hs : ∀ x, genFold iter env x = pure x) :
    wpAny (model PG w) A (eval (.GeneratorExp (.Call (.Name (Str.ofString "quote") p1) [.Name (Str.ofString "arg") p2] [] p3) [⟨.Name (Str.ofString "arg") px, iter, [], 0⟩] scope pos) env) Q E s := by
  have hroom : A.depth < recursionLimit := Nat.lt_trans hd (by decide)
  refine wpAny_GeneratorExp_walksQD hh hco hclos hcell h0 hx hkind hroom (hiter _ (wpAny_pyIter_list hl ?_)) hs
  have hP := (N _ (.head _)).1
  have hP0 : h₀.get? 765 = none := (N _ (.head _)).2.2
  have hlt : wl < s.heap.objs.size := by obtain ⟨_, e, _⟩ := hl; exact Heap.lt_size e
  have hPlt : 765 < s.heap.objs.size := Heap.lt_size hP
  have hlP : wl ≠ 765 := fun e => by
    obtain ⟨o, ho, hc, _⟩ := hl
    rw [e, hP] at ho; cases ho; cases hc
  have hlim : s.heap.NoLimit := T₀.nolimit.keeps F.keep
  have X := X₀.keeps F.keep
  have hP2 : (s.heap.push { cls := .type "list_iterator", data := .fields #[.ref wl, .int 0 0] }).get? 765 = some (tabObj #[]) := Heap.get?_push_of_some _ hP
  have X2 : (Mine.Ho.frag w.params).In (s.heap.push { cls := .type "list_iterator", data := .fields #[.ref wl, .int 0 0] }) := X.keeps fun _ _ e => Heap.get?_push_of_some _ e
  refine ⟨hlim.push _, wpAny_genexprCodeX hcode ((code769 X2).code hP2 trivial) ((code769 X2).tab hP2) rfl fun c' h₃ tk₃ hx₃ hge hlt₃ hcode₃ _ htab₃ _ => ?_⟩
  have k3 : ∀ b o, b ≠ 765 → s.heap.get? b = some o → h₃.get? b = some o := fun b o hb e => hx₃ b o hb (Heap.get?_push_of_some _ e)
  have k03 : Keeps h₀ h₃ := fun b o e => k3 b o (fun q => by rw [q, hP0] at e; cases e) (F.keep b o e)
  have hsz : s.heap.objs.size + 1 ≤ h₃.objs.size := by
    have := Nat.le_trans hge (Nat.le_of_lt hlt₃)
    rw [Heap.size_push] at this; exact this
  have hs3 : s.heap.objs.size < h₃.objs.size := hsz
  have M₃ := M.keeps k03
  refine wpAny_builtinsFor (by rw [hgl]; exact M₃.ns) M₃.name M₃.ne M₃.obj M₃.cls M₃.dict M₃.data ?_
  have hLs : L < s.heap.objs.size := F.ns.lt
  have hc : cStatics < s.heap.objs.size := let ⟨_, hn, _⟩ := hlim; hn.lt
  have hL765 : (765 : Addr) ≠ L := (N _ (.head _)).2.1
  have F₃ : Fr h₀ L h₃ m := ⟨F.ns.at' fun o e => k3 L o (Ne.symm hL765) e, k03, F.above⟩
  have N₃ : News h₀ L h₃ ((765, tabObj (#[] ++ #[rawInt pos.line, rawInt pos.col, .ref c'])) :: news) := fun q hq => by
    rcases List.mem_cons.mp hq with rfl | hq
    · exact ⟨htab₃.2, (N _ (.head _)).2⟩
    · exact ⟨k3 _ _ (hnews q hq) (N q (.tail _ hq)).1, (N q (.tail _ hq)).2⟩
  have hit₃ : h₃.get? s.heap.objs.size = some { cls := .type "list_iterator", data := .fields #[.ref wl, .int 0 0] } := hx₃ _ _ (Nat.ne_of_gt hPlt) (Heap.get?_push_size _ rfl)
  refine ⟨s.heap.objs.size, [s.heap.objs.size, wl], [s.heap.objs.size], items.size, _, _, (fun _ => true), (fun i y => ∃ t, y = Value.str ⟨(quoL (ts.getD i "").cps.toList).toArray⟩ t), rfl,
    (fun A' hA => Walks.list hA _ _ (Nat.ne_of_lt hlt) items), ⟨⟨_, hit₃, rfl, rfl⟩, ?_⟩, ?_, T₀.nolimit.keeps k03, ?_, ?_, ?_⟩
  · obtain ⟨o, ho, r⟩ := hl
    exact ⟨o, k3 _ _ hlP ho, r⟩
  · intro b hb
    show b < h₃.objs.size
    rcases List.mem_cons.mp hb with rfl | hb
    · exact hs3
    · rcases List.mem_cons.mp hb with rfl | hb
      · exact Nat.lt_trans hlt hs3
      · cases hb
  · intro hm
    rcases List.mem_cons.mp hm with e | hb
    · exact absurd (e ▸ hc) (Nat.lt_irrefl _)
    · cases hb
  · intro href hkr
    refine ⟨fun A' E' i v s₂ m₂ hA _ _ hP hn hm hkp => ?_, fun A' E' i v s₂ m₂ hA hD _ hP hp hn hm hkp => ?_⟩
    · exact wpAny_pure ⟨rfl, _, _, rfl, fun _ _ e => e⟩
    · obtain ⟨t, rfl⟩ := hi i v hP
      have k02 : Keeps h₀ s₂.heap := fun b o e => hkp b (List.mem_range.mpr (Heap.lt_size (k03 b o e))) (fun q => by
        have := List.mem_singleton.mp q
        have l := Heap.lt_size (F.keep b o e)
        rw [this] at l; exact Nat.lt_irrefl _ l) o (hkr b o (k03 b o e))
      refine elt_quote (X₀.keeps k02) (T₀.keeps k02) hn hm hgl hkind hqn hx (Nat.lt_of_le_of_lt hD (by omega)) (hlen i) fun h' tk t' k' => ⟨⟨t', rfl⟩, h', tk, rfl, k'⟩
  · intro a h₅ tk gs hgb hag hsz₅ hk₅ W hat
    refine h a _ _ (frK F₃ hk₅) (newsK N₃ hk₅) (G.push hgb) rfl ⟨_, _, _, _, W, hat, (fun i s' st => st.1.typeIs), List.mem_cons_self, ?_, ?_⟩
    · intro b hb
      show b < h₅.objs.size
      rw [hsz₅]
      rcases List.mem_cons.mp hb with rfl | hb
      · exact Nat.lt_succ_self _
      · rcases List.mem_cons.mp hb with rfl | hb
        · exact Nat.lt_succ_of_lt hag
        · exact Nat.lt_succ_of_lt (Nat.lt_trans (List.mem_range.mp hb) hag)
    · intro b hb
      rcases List.mem_cons.mp hb with rfl | hb
      · exact Nat.lt_trans hLs hs3
      · rcases List.mem_cons.mp hb with rfl | hb
        · exact hLs
        · cases hb
end
end Mine
-- part Jn
set_option maxHeartbeats 8000000
namespace Mine
open PySem PySem.W PySem.Calls PyProof.Rows
def quoS (x : Str) : Str := ⟨(quoL x.cps.toList).toArray⟩
theorem quoL_len (l : List Nat) : (quoL l).length ≤ 5 * l.length + 2 := by
  have := quoQ_len l
  unfold quoL
  split
  · split
    · simp
    · omega
  · simp only [List.length_cons, List.length_append, List.length_nil]; omega
theorem pass_all (n : Nat) : passing (fun _ => true) n 0 = List.range n := by unfold passing; rw [List.drop_zero]; exact List.filter_eq_self.mpr fun _ _ => rfl
theorem quo_sum (ts : List Str) : ((ts.map quoS).map (·.length)).sum + (ts.map quoS).length ≤ 5 * (ts.map (·.length)).sum + 3 * ts.length := by
  induction ts with
  | nil => exact Nat.le_refl _
  | cons x ts ih =>
    simp only [List.map_cons, List.sum_cons, List.length_cons] at ih ⊢
    have : (quoS x).length ≤ 5 * x.length + 2 := by
      have := quoL_len x.cps.toList
      show (quoL x.cps.toList).toArray.size ≤ 5 * x.cps.size + 2
      simpa using this
    omega
section
variable {w : World} {A : Around} {s : Shared} {p : Program} {loose : List Str} {mg mb : Str → Option Value} {h₀ : Heap} {L : Addr} {m : Str → Option Value} {Q E : Value → Shared → Prop}
theorem k_join {t : Tok} {sep : Str} {ts : List Str} {a : Addr} {n : Nat} {news : List (Addr × Obj)} (F : Fr h₀ L s.heap m) (N : News h₀ L s.heap news) (hN : ∀ q ∈ news, q.1 < L) (G : AllBare s.gens)
    (X : Gen PG w A L a (passing (fun _ => true) n 0).length (fun j y => ∃ i, (passing (fun _ => true) n 0)[j]? = some i ∧ ∃ t, y = Value.str ⟨(quoL (ts.getD i "").cps.toList).toArray⟩ t) s) (hn : n = ts.length)
    (hsum : (ts.map (·.length)).sum + ts.length ≤ 100000) (hs : sep.length ≤ 16)
    (h : ∀ s' t', Fr h₀ L s'.heap m → News h₀ L s'.heap news → AllBare s'.gens → s'.os = s.os → Q (.str (Str.join sep (ts.map quoS)) t') s') :
    wpAny (model PG w) A (call (.builtin "str.join") [.str sep t, .ref a]) Q E s := by
  subst hn
  rw [pass_all] at X
  have e : (List.range ts.length).map (fun j => quoS (ts.getD j "")) = ts.map quoS := by
    have := map_range (List.range ts.length) (fun j => quoS (ts.getD j ""))
    apply List.ext_getElem?
    intro j
    by_cases hj : j < ts.length
    · simp [hj, List.getD_eq_getElem?_getD]
    · simp [hj]
  have hq := quo_sum ts
  have hlen : (List.range ts.length).length = ts.length := List.length_range
  have hr : (List.range (List.range ts.length).length).map (fun j => quoS (ts.getD j "")) = ts.map quoS := by rw [hlen]; exact e
  refine join_rowsK F G X (Nat.le_refl _) (fun j => quoS (ts.getD j "")) (fun j v hv => ?_) (by rw [hr]; exact joinOk_of_weight (by omega) hs) (fun s' t' f1 g1 o1 k1 => ?_) (by rw [hlen]; simp only [sizeLine]; omega)
  · obtain ⟨i, hi, u, rfl⟩ := hv
    have hj : j < ts.length := by
      have := (List.getElem?_eq_some_iff.mp hi).1
      rwa [hlen] at this
    have : i = j := by rw [List.getElem?_range hj] at hi; exact (Option.some.inj hi).symm
    subst this
    exact ⟨u, rfl⟩
  · rw [hr]
    have : Txt.join sep (ts.map quoS) = Str.join sep (ts.map quoS) := StrLaws.glued_eq_join sep _
    rw [this]
    exact h s' t' f1 (fun q hq => ⟨k1 _ _ (Nat.le_of_lt (hN q hq)) (N q hq).1, (N q hq).2⟩) g1 o1
theorem join_c {wl bm : Addr} {ob : Obj} {items : Array Value} {ts : List Str} (X₀ : (Mine.Ho.frag w.params).In h₀) (T₀ : TopRead p loose mg mb h₀) (k₀ : Keeps h₀ s.heap) (h765 : h₀.get? 765 = none) (hP : s.heap.get? 765 = some (tabObj #[])) (M : BMod h₀ mainGlobals mg bm ob)
    (G : AllBare s.gens) (hl : s.heap.IsList wl items) (hi : ∀ i v, items[i]? = some v → ∃ t, v = Value.str (ts.getD i "") t) (hlen : ∀ i, (ts.getD i "").length < 1000000) (hsz : items.size = ts.length) (hsum : (ts.map (·.length)).sum + ts.length ≤ 100000)
    (hh : A.handled = none) (hd : A.depth < 790)
    (h : ∀ s' t', KeepsBut [765] s.heap s'.heap → (∃ ps, s'.heap.get? 765 = some (tabObj ps)) → AllBare s'.gens → s'.os = s.os → Q (.str (Str.join (Str.ofString " ") (ts.map quoS)) t') s') :
    wpAny (model PG w) A (call (.ref 770) [.ref wl]) Q E s := by
  k_with_none
  k_with "enter" => (k_dflt (case k1 => k_asm); (case k2 => k_asm); (case k3 => k_asm); (case k4 => assumption); (case k5 => k_is); (case k6 => k_is); (case k8 => first | exact BindsTo.of_eq rfl | exact binds_K (by assumption) rfl (by k_is) rfl rfl rfl); (case k9 => exact locs rfl); (case c1 => exact rfl); (case c2 => exact rfl); (case c3 => exact rfl); (case c4 => decide))
  k_with "eval GeneratorExp" => (refine' gen_quote ?k1 ?k2 ?k3 ?k4 ?k5 ?k6 ?k7 ?k8 ?k9 ?ka ?kb ?kc ?kd ?ke ?kf ?kg ?kh ?ki ?kj ?kk ?kl ?km ?_ ?ko; (case k1 => k_asm); (case k2 => k_asm); (case k3 => k_asm); (case k4 => k_asm); (case k5 => assumption); (case k6 => exact rfl); (case k7 => exact rfl); (case k8 => (show Around.handled _ = _; assumption)); (case k9 => (show _ + 1 < _; omega)); (case ka => assumption); (case kb => assumption); (case kc => assumption); (case kd => assumption); (case ke => (intro _ q; cases q)); (case kf => exact rfl); (case kg => exact rfl); (case kh => decide); (case ki => exact rfl); (case kj => exact rfl); (case kk => exact rfl); (case kl => exact rfl); (case km => (intro Q' hQ'; refine' ld ?m1 ?m2 ?_; (case m1 => k_asm); (case m2 => exact rfl); exact hQ')); (case ko => (intro _; rfl)))
  have hn0 : ∀ p ∈ [((765 : Addr), tabObj #[])], s.heap.get? p.1 = some p.2 ∧ h₀.get? p.1 = none := fun q hq => by
    rcases List.mem_singleton.mp hq with rfl; exact ⟨hP, h765⟩
  refine' call_fnH (h₀ := h₀) (news := [(765, tabObj #[])]) (binds := [(Str.ofString "split_command", .ref wl)]) ?k1 ?k2 ?k3 ?k4 ?k5 ?k6 ?k7 ?k8 ?k9 ?_ ?c1 ?c2 ?c3 ?c4
  walk_at "enter"
  case k7 => exact Nat.lt_trans hd (by decide)
  intro g L h₁ tk kb Xg Tg F N hlt
  k_fold
  have hl1 : h₁.IsList wl items := by
    obtain ⟨o, ho, r⟩ := id hl
    refine ⟨o, F.keep _ _ (kb _ _ (fun q => ?_) ho), r⟩
    rw [List.mem_singleton.mp q, hP] at ho; cases ho; cases r.1
  have Mg : BMod g mainGlobals mg bm ob := M.keeps fun b o e => kb b o (fun q => by rw [List.mem_singleton.mp q, h765] at e; cases e) (k₀ b o e)
  k_steps
  rename Gen _ _ _ _ _ _ _ _ => X'
  rename Array Value => ps'
  rename News g L _ [(765, tabObj ps')] => N'
  rename AllBare _ => G'
  rename Fr g L _ _ => F'
  rename Shared.os _ = _ => O'
  refine k_join F' N' (fun q hq => ?_) G' X' hsz hsum (by decide) fun s' t' f1 n1 g1 o1 => ?_
  · rcases List.mem_singleton.mp hq with rfl; exact hlt (765, tabObj #[]) (.head _)
  · exact h s' t' (fun b o hb e => f1.keep b o (kb b o hb e)) ⟨_, (n1 _ (.head _)).1⟩ g1 (o1.trans O')
end
end Mine
-- part Mp
set_option maxHeartbeats 8000000
namespace Mine
open PySem PySem.W PySem.Calls PyProof.Rows
namespace Mpp
theorem mro_map : mroOf (.type "map") = pure [.type "map", .type "object"] := by rw [mroOf_type]; kernel_rfl
theorem lookup_map_new : typeLookup (.type "map") "__new__" = pure (some (.builtin "map.__new__")) := by rw [typeLookup_type, builtinLookup_eq_fast]; kernel_rfl
theorem slot_map_init : Slot "map" "__init__" "object.__init__" :=
  .of (owner := "object") (n := "__init__") (by rw [typeLookup_type, builtinLookup_eq_fast]; kernel_rfl) (by decide +kernel) (by decide +kernel) (by decide +kernel)
    (by first | exact .inl (by decide +kernel) | exact .inr (by decide +kernel)) (by rw [isSubtype_type]; kernel_rfl)
theorem called_map : TypeCalled "map" "map.__new__" "object.__init__" :=
  ⟨by decide +kernel, by decide +kernel, ⟨_, _, mro_map⟩, madeBy_type mro_map lookup_map_new (by decide +kernel), by decide +kernel, by rw [isSubtype_type]; kernel_rfl, slot_map_init⟩
theorem typeCall_map (a b : Value) : checkTypeCall "map" ⟨[a, b], []⟩ = pure () := by rw [PySem.W.Fast.te11612656972197000677]; kernel_rfl
theorem newCall_map (a b : Value) : checkBuiltinCall "map.__new__" ⟨[.type "map", a, b], []⟩ = pure () := by rw [PySem.W.Fast.te10254737850608025244]; kernel_rfl
theorem entry_map_new : entryFor table "map.__new__" = some Builtin.«map.__new__» := entryFor_of_tree (by kernel_rfl)
theorem args_map_init (o a b : Value) : argsOk "object.__init__" ⟨[o, a, b], []⟩ := by unfold argsOk; rw [PySem.W.S.signatureZ_eq]; kernel_rfl
theorem sub_map : isSubtype (.type "map") (.type "map") = pure true := by rw [isSubtype_type]; kernel_rfl
theorem slot_map_next : Slot "map" "__next__" "map.__next__" :=
  .of (owner := "map") (n := "__next__") (by rw [typeLookup_type, builtinLookup_eq_fast]; kernel_rfl) (by decide +kernel) (by decide +kernel) (by decide +kernel)
    (by first | exact .inl (by decide +kernel) | exact .inr (by decide +kernel)) (by rw [isSubtype_type]; kernel_rfl)
theorem entry_map_next : entryFor table "map.__next__" = some Builtin.«map.__next__» := entryFor_of_tree (by kernel_rfl)
theorem args_map_next (a : Value) : argsOk "map.__next__" ⟨[a], []⟩ := by unfold argsOk; rw [PySem.W.S.signatureZ_eq]; kernel_rfl
theorem look_map_len : typeLookup (.type "map") "__len__" = pure none := by rw [typeLookup_type, builtinLookup_eq_fast]; kernel_rfl
theorem look_map_hint : typeLookup (.type "map") "__length_hint__" = pure none := by rw [typeLookup_type, builtinLookup_eq_fast]; kernel_rfl
theorem look_map_iter : typeLookup (.type "map") "__iter__" = pure (some (.builtin "map.__iter__")) := by rw [typeLookup_type, builtinLookup_eq_fast]; kernel_rfl
abbrev itO (l : Addr) (i : Nat) : Obj := { cls := .type "list_iterator", data := .fields #[.ref l, .int i 0] }
abbrev tupO (j : Addr) : Obj := { cls := .type "tuple", data := .seq #[.ref j] }
abbrev mapO (t : Addr) (f : Value) : Obj := { cls := .type "map", data := .fields #[.ref t, f] }
theorem meets_map_new (l : Addr) (f : Value) (items : Array Value) (n : Nat) (dct : Option Addr) (sl : Array (Option Value)) :
    Meets (Builtin.«map.__new__» ⟨[.type "map", f, .ref l], []⟩) (fun _ R s => s.heap.get? l = some { cls := .type "list", dict := dct, data := .seq items n, slots := sl } ∧
      R (.ok (.ret (.ref ((s.heap.push (itO l 0)).push (tupO s.heap.objs.size)).objs.size)))
        { s with heap := ((s.heap.push (itO l 0)).push (tupO s.heap.objs.size)).push (mapO (s.heap.push (itO l 0)).objs.size f) }) :=
  .of_wp fun prog w A R s h => by
    obtain ⟨hp, g, d, tk, os⟩ := s; obtain ⟨hl, h⟩ := h
    have hsub := sub_map
    have hL : Heap.IsList (Shared.heap ⟨hp, g, d, tk, os⟩) l items := ⟨_, hl, rfl, n, rfl⟩
    wp_walk using PySem.AutoSeq1.wpAny_loadPart' hl, wpAny_pyIter_list hL
    exact ⟨_, rfl, h⟩
theorem slot_map_iter : Slot "map" "__iter__" "map.__iter__" :=
  .of (owner := "map") (n := "__iter__") (by rw [typeLookup_type, builtinLookup_eq_fast]; kernel_rfl) (by decide +kernel) (by decide +kernel) (by decide +kernel)
    (by first | exact .inl (by decide +kernel) | exact .inr (by decide +kernel)) (by rw [isSubtype_type]; kernel_rfl)
theorem entry_map_iter : entryFor table "map.__iter__" = some Builtin.«dict_keyiterator.__iter__» :=
  entryFor_alias (id' := "dict_keyiterator.__iter__") (by rw [fastTable_eq_tree]; kernel_rfl) (by first | rfl | decide +kernel | (unfold String.splitOn; simp +decide [String.splitOnAux])) (by decide +kernel) (by rw [fastTable_eq_tree]; kernel_rfl)
theorem args_map_iter (a : Value) : argsOk "map.__iter__" ⟨[a], []⟩ := by unfold argsOk; rw [PySem.W.S.signatureZ_eq]; kernel_rfl
end Mpp
end Mine
-- part Mq
set_option maxHeartbeats 8000000
namespace Mine
open PySem PySem.W PySem.Calls PyProof.Rows Mpp
section
variable {w : World} {A : Around} {s : Shared} {p : Program} {loose : List Str} {mg mb : Str → Option Value} {h₀ : Heap} {L : Addr} {m : Str → Option Value}
structure MapAt (h : Heap) (I T J D : Addr) (i : Nat) (items : Array Value) : Prop where
  mI : h.get? I = some (mapO T (.ref 56))
  mT : h.get? T = some (tupO J)
  mJ : h.IsListIter J D i
  mD : h.IsList D items
theorem MapAt.keep {h h' : Heap} {I T J D : Addr} {i : Nat} {items : Array Value} (x : MapAt h I T J D i items) (k : Keeps h h') : MapAt h' I T J D i items :=
  ⟨k _ _ x.mI, k _ _ x.mT, (let ⟨o, e, r⟩ := x.mJ; ⟨o, k _ _ e, r⟩), (let ⟨o, e, r⟩ := x.mD; ⟨o, k _ _ e, r⟩)⟩
theorem MapAt.ne {h : Heap} {I T J D : Addr} {i : Nat} {items : Array Value} (x : MapAt h I T J D i items) : I ≠ J ∧ T ≠ J ∧ D ≠ J := by
  obtain ⟨o, e, c, _⟩ := x.mJ
  refine ⟨fun q => ?_, fun q => ?_, fun q => ?_⟩
  · have := x.mI; rw [q, e] at this; cases this; injection c with c; exact absurd c (by decide)
  · have := x.mT; rw [q, e] at this; cases this; injection c with c; exact absurd c (by decide)
  · obtain ⟨o', e', c', _⟩ := x.mD; rw [q, e] at e'; cases e'; rw [c] at c'; injection c' with c'; exact absurd c' (by decide)
theorem map_item {I T J D : Addr} {i : Nat} {items : Array Value} {x : Str} {t : Tok} {Q : Option Value → Shared → Prop} {E : Value → Shared → Prop} (X₀ : (Mine.Ho.frag w.params).In h₀) (T₀ : TopRead p loose mg mb h₀) (k₀ : Keeps h₀ s.heap) (hJ : h₀.get? J = none)
    (M : MapAt s.heap I T J D i items) (hx : items[i]? = some (.str x t)) (hl : x.length < 1000000) (hh : A.handled = none) (hd : A.depth < 890)
    (h : ∀ h' tk t', MapAt h' I T J D (i + 1) items → KeepsBut [J] s.heap h' → Q (some (.str ⟨(escL x.cps.toList).toArray⟩ t')) { s with heap := h', toks := tk }) :
    wpAny (model PG w) A (pyNext (.ref I)) Q E s := by
  have hT : s.TypeIs (.ref I) "map" := ⟨_, M.mI, rfl⟩
  obtain ⟨n1, n2, n3⟩ := M.ne
  unfold pyNext
  refine wpAny_bind (wpAny_attempt (wpAny_callSpecial?_slot (name := Str.ofString "__next__") hT slot_map_next
    (wpAny_call_entry slot_map_next hT entry_map_next ?_ (args_map_next _))))
  show wpAny _ _ (field (.ref I) 0 >>= _) _ _ _
  refine wpAny_bind (wpAny_field M.mI rfl (x := .ref T) rfl ?_)
  refine wpAny_bind (wpAny_seqItems M.mT rfl ?_)
  dsimp only
  refine wpAny_bind ?_
  rw [← Array.forIn_toList]
  show wpAny _ _ (forIn [Value.ref J] _ _) _ _ _
  rw [List.forIn_cons]
  refine wpAny_bind (wpAny_bind (wpAny_holding (wpAny_nextOf_list_item M.mJ M.mD hx fun h1 hit hs1 => wpAny_pure ?_)))
  dsimp only
  rw [List.forIn_nil]
  refine wpAny_pure ?_
  have k1 : KeepsBut [J] s.heap h1 := fun b o hb e => hs1.extBut b o (fun q => hb (by rw [q]; exact .head _)) e
  have M1 : MapAt h1 I T J D (i + 1) items := ⟨k1 _ _ (fun q => n1 (List.mem_singleton.mp q)) M.mI, k1 _ _ (fun q => n2 (List.mem_singleton.mp q)) M.mT, hit, (let ⟨o, e, r⟩ := M.mD; ⟨o, k1 _ _ (fun q => n3 (List.mem_singleton.mp q)) e, r⟩)⟩
  have k01 : Keeps h₀ h1 := fun b o e => k1 b o (fun q => by rw [List.mem_singleton.mp q, hJ] at e; cases e) (k₀ b o e)
  refine wpAny_bind (wpAny_field M1.mI rfl (x := .ref 56) rfl ?_)
  refine wpAny_bind (wpAny_holding ?_)
  show wpAny _ _ (call (.ref 56) [.str x t]) _ _ _
  refine escape_c (s := { s with heap := h1 }) (X₀.keeps k01) (T₀.keeps k01) hh (by show A.depth < 900; omega) hl fun h2 tk t' k2 => ?_
  refine wpAny_bind (wpAny_letGo ?_)
  exact wpAny_pure ⟨_, rfl, wpAny_pure (h h2 tk t' (M1.keep k2) fun b o hb e => k2 b o (k1 b o hb e))⟩
theorem map_stop {I T J D : Addr} {items : Array Value} {Q : Option Value → Shared → Prop} {E : Value → Shared → Prop}
    (M : MapAt s.heap I T J D items.size items) (hh : A.handled = none)
    (h : ∀ h', KeepsBut [J] s.heap h' → Q none { s with heap := h' }) :
    wpAny (model PG w) A (pyNext (.ref I)) Q E s := by
  have hT : s.TypeIs (.ref I) "map" := ⟨_, M.mI, rfl⟩
  unfold pyNext
  refine wpAny_bind (wpAny_attempt (wpAny_callSpecial?_slot (name := Str.ofString "__next__") hT slot_map_next
    (wpAny_call_entry slot_map_next hT entry_map_next ?_ (args_map_next _))))
  show wpAny _ _ (field (.ref I) 0 >>= _) _ _ _
  refine wpAny_bind (wpAny_field M.mI rfl (x := .ref T) rfl ?_)
  refine wpAny_bind (wpAny_seqItems M.mT rfl ?_)
  dsimp only
  refine wpAny_bind ?_
  rw [← Array.forIn_toList]
  show wpAny _ _ (forIn [Value.ref J] _ _) _ _ _
  rw [List.forIn_cons]
  refine wpAny_bind (wpAny_bind (wpAny_holding (wpAny_nextOf_list_end hh M.mJ M.mD (by simp) fun h' e he hx => ?_)))
  obtain ⟨o, ho, hc⟩ := hx
  refine wpAny_bind (wpAny_isInstance (T := "StopIteration") (b := true) ⟨o, ho, hc⟩ isSubtype_stop ?_)
  exact wpAny_pure (h _ fun b o hb e => he b o (fun q => hb (by rw [q]; exact .head _)) e)
theorem call_map {l : Addr} {items : Array Value} {n : Nat} {Q E : Value → Shared → Prop} (hl : s.heap.get? l = some (lstO items n))
    (h : ∀ h' I T J, MapAt h' I T J l 0 items → Keeps s.heap h' → s.heap.get? I = none → s.heap.get? T = none → s.heap.get? J = none → I ≠ T → Q (.ref I) { s with heap := h' }) :
    wpAny (model PG w) A (call (.type "map") [.ref 56, .ref l]) Q E s := by
  refine callType_new called_map (by decide) (typeCall_map _ _) (newCall_map _ _) (fun obj => args_map_init obj _ _) entry_map_new (meets_map_new l (.ref 56) items n none #[]) ⟨hl, ?_⟩
  have z1 : (s.heap.push (itO l 0)).objs.size = s.heap.objs.size + 1 := Heap.size_push ..
  have z2 : ((s.heap.push (itO l 0)).push (tupO s.heap.objs.size)).objs.size = s.heap.objs.size + 2 := by rw [Heap.size_push, z1]
  have g1 := Heap.get?_push_size s.heap (o := itO l 0) rfl
  have g2 := Heap.get?_push_size (s.heap.push (itO l 0)) (o := tupO s.heap.objs.size) rfl
  have g3 := Heap.get?_push_size ((s.heap.push (itO l 0)).push (tupO s.heap.objs.size)) (o := mapO (s.heap.push (itO l 0)).objs.size (.ref 56)) rfl
  refine ⟨⟨_, g3, rfl⟩, h _ _ (s.heap.push (itO l 0)).objs.size s.heap.objs.size ⟨g3, Heap.get?_push_of_some _ g2, ⟨_, Heap.get?_push_of_some _ (Heap.get?_push_of_some _ g1), rfl, rfl⟩, ⟨_, Heap.get?_push_of_some _ (Heap.get?_push_of_some _ (Heap.get?_push_of_some _ hl)), rfl, _, rfl⟩⟩
    (fun b o e => Heap.get?_push_of_some _ (Heap.get?_push_of_some _ (Heap.get?_push_of_some _ e))) ?_ ?_ ?_ ?_⟩
  · rw [z2]; exact Heap.get?_none_of_le (Nat.le_add_right _ _)
  · rw [z1]; exact Heap.get?_none_of_le (Nat.le_add_right _ _)
  · exact Heap.get?_none_of_le (Nat.le_refl _)
  · rw [z1, z2]; exact Nat.ne_of_gt (Nat.lt_succ_self _)
end
end Mine
-- part Ml
set_option maxHeartbeats 8000000
namespace Mine
open PySem PySem.W PySem.Calls PyProof.Rows Mpp
def escS (x : Str) : Str := ⟨(escL x.cps.toList).toArray⟩
/-- the values are these texts -/
def Txs (xs : Array Value) (ts : List Str) : Prop := xs.size = ts.length ∧ ∀ i (h : i < ts.length), ∃ t, xs[i]? = some (.str ts[i] t)
theorem Txs.nil : Txs #[] [] := ⟨rfl, fun i h => absurd h (Nat.not_lt_zero _)⟩
theorem Txs.push {xs : Array Value} {ts : List Str} (h : Txs xs ts) (x : Str) (t : Tok) : Txs (xs.push (.str x t)) (ts ++ [x]) := by
  refine ⟨by simp [h.1], fun i hi => ?_⟩
  by_cases e : i < ts.length
  · obtain ⟨u, hu⟩ := h.2 i e
    refine ⟨u, ?_⟩
    rw [Array.getElem?_push_lt (by rw [h.1]; exact e), List.getElem_append_left e]
    have := hu
    rw [Array.getElem?_eq_getElem (by rw [h.1]; exact e)] at this
    exact this
  · have : i = ts.length := by simp at hi; omega
    subst this
    refine ⟨t, ?_⟩
    have e2 : (ts ++ [x])[ts.length] = x := by simp
    rw [e2]
    have e3 : (xs.push (Value.str x t))[xs.size]? = some (Value.str x t) := Array.getElem?_push_size
    rw [h.1] at e3
    exact e3
section
variable {w : World} {A : Around} {s : Shared} {p : Program} {loose : List Str} {mg mb : Str → Option Value} {h₀ : Heap} {L : Addr} {m : Str → Option Value}
theorem loop_map {I T J D S : Addr} {items : Array Value} {ts : List Str} {R : Result → Shared → Prop} (X₀ : (Mine.Ho.frag w.params).In h₀) (T₀ : TopRead p loose mg mb h₀) (hJ : h₀.get? J = none) (hS0 : h₀.get? S = none)
    (hi : Txs items ts) (hlen : ∀ x ∈ ts, x.length < 1000000) (hsz : ts.length < 1000000) (hh : A.handled = none) (hd : A.depth < 880) (hSI : S ≠ I ∧ S ≠ T ∧ S ≠ J ∧ S ≠ D) :
    ∀ (k i : Nat) (acc : Array Value) (n : Nat) (s : Shared), ts.length - i = k → i ≤ ts.length → Keeps h₀ s.heap → MapAt s.heap I T J D i items → s.heap.get? S = some (lstO acc n) → Txs acc ((ts.take i).map escS) →
      (∀ h' tk acc' n', KeepsBut [J, S] s.heap h' → h'.get? S = some (lstO acc' n') → Txs acc' (ts.map escS) → R (.ok (.ret .none)) { s with heap := h', toks := tk }) →
      codeAny (model PG w) A (.builtin "list.extend.loop" ⟨[.ref S, .ref I, .none], []⟩) R s := by
  intro k
  induction k with
  | zero =>
    intro i acc n s hk hle k₀ M hS hacc h
    have e : i = ts.length := by omega
    subst e
    refine codeAny_builtin F.entry_extend_loop ?_
    rw [Around.under_plainId F.plain_extend_loop _]
    show wpAny _ A.in1 (pyNext (.ref I) >>= _) _ _ s
    rw [← hi.1] at M
    refine wpAny_bind (map_stop (A := A.in1) M hh fun h' kb => ?_)
    refine wpAny_pure (h h' _ acc n (fun b o hb q => kb b o (fun z => hb (by rw [List.mem_singleton.mp z]; exact .head _)) q) (kb _ _ (fun z => hSI.2.2.1 (List.mem_singleton.mp z)) hS) ?_)
    rwa [List.take_length] at hacc
  | succ k ih =>
    intro i acc n s hk hle k₀ M hS hacc h
    have hlt : i < ts.length := by omega
    obtain ⟨t, ht⟩ := hi.2 i hlt
    refine codeAny_builtin F.entry_extend_loop ?_
    rw [Around.under_plainId F.plain_extend_loop _]
    show wpAny _ A.in1 (pyNext (.ref I) >>= _) _ _ s
    refine wpAny_bind (map_item (A := A.in1) X₀ T₀ k₀ hJ M ht (hlen _ (List.getElem_mem _)) hh (by show A.depth < 890; omega) fun h1 tk t' M1 kb => ?_)
    have hS1 : h1.get? S = some (lstO acc n) := kb _ _ (fun z => hSI.2.2.1 (List.mem_singleton.mp z)) hS
    have hasz : acc.size = i := by rw [hacc.1, List.length_map, List.length_take]; omega
    show wpAny _ A.in1 (updateSeq S (·.push _) >>= _) _ _ _
    refine wpAny_bind (wpAny_updateSeq hS1 rfl (wpAny_pure ⟨plainId_quiet F.plain_extend_loop _, ?_⟩) (by show acc.size ≤ _; simp only [sizeLine]; omega) (by show (acc.push _).size ≤ _; simp only [Array.size_push, sizeLine]; omega))
    have hS2 := Heap.get?_update_self (Obj.mapSeq (·.push (Value.str (escS ts[i]) t'))) hS1 rfl
    have k2 : ∀ b o, b ≠ S → h1.get? b = some o → (h1.update S (Obj.mapSeq (·.push (Value.str (escS ts[i]) t')))).get? b = some o := fun b o hb e => (Heap.get?_update_other _ _ (Ne.symm hb)).trans e
    have nS : ∀ b o, h₀.get? b = some o → b ≠ S := fun b o e q => by rw [q, hS0] at e; cases e
    have nJ : ∀ b o, h₀.get? b = some o → b ∉ [J] := fun b o e q => by rw [List.mem_singleton.mp q, hJ] at e; cases e
    refine ih (i + 1) (acc.push (.str (escS ts[i]) t')) _ { s with heap := _, toks := tk } (by omega) hlt (fun b o e => k2 b o (nS b o e) (kb b o (nJ b o e) (k₀ b o e)))
      ⟨k2 _ _ (Ne.symm hSI.1) M1.mI, k2 _ _ (Ne.symm hSI.2.1) M1.mT, (let ⟨o, e, r⟩ := M1.mJ; ⟨o, k2 _ _ (Ne.symm hSI.2.2.1) e, r⟩), (let ⟨o, e, r⟩ := M1.mD; ⟨o, k2 _ _ (Ne.symm hSI.2.2.2) e, r⟩)⟩ hS2 ?_ ?_
    · have := hacc.push (escS ts[i]) t'
      rw [List.take_succ_eq_append_getElem hlt, List.map_append]
      exact this
    · intro h' tk' acc' n' kb' g1 g2
      refine h h' tk' acc' n' (fun b o hb e => kb' b o hb (k2 b o (fun q => hb (by rw [q]; exact .tail _ (.head _))) (kb b o (fun z => hb (by rw [List.mem_singleton.mp z]; exact .head _)) e))) g1 g2
/-- list(map(escape, D)) -/
theorem list_map {I T J D : Addr} {items : Array Value} {ts : List Str} {Q E : Value → Shared → Prop} {news : List (Addr × Obj)} (Fh : Fr h₀ L s.heap m) (N : News h₀ L s.heap news) (X₀ : (Mine.Ho.frag w.params).In h₀) (T₀ : TopRead p loose mg mb h₀)
    (M : MapAt s.heap I T J D 0 items) (hJ : h₀.get? J = none) (hJL : J ≠ L) (hJN : ∀ q ∈ news, q.1 ≠ J) (hi : Txs items ts) (hlen : ∀ x ∈ ts, x.length < 1000000) (hsz : ts.length < 1000000) (hh : A.handled = none) (hd : A.depth < 870)
    (h : ∀ h' tk S acc n, Txs acc (ts.map escS) → Fr h₀ L h' m → News h₀ L h' ((S, lstO acc n) :: news) → (∀ q ∈ news, q.1 < S) → Q (.ref S) { s with heap := h', toks := tk }) :
    wpAny (model PG w) A (call (.type "list") [.ref I]) Q E s := by
  refine callType_codes (Q₁ := fun obj s₁ => obj = .ref s.heap.objs.size ∧ s₁ = { s with heap := s.heap.push { cls := .type "list", data := .seq #[] } }) F.called_list (F.typeCall_list_1 _) F.entry_list_init
    (code_list_new _ ⟨rfl, rfl⟩) fun obj s₁ h₁ => ?_
  obtain ⟨rfl, rfl⟩ := h₁
  have hS : (s.heap.push { cls := .type "list", data := .seq #[] }).get? s.heap.objs.size = some { cls := .type "list", data := .seq #[] } := Heap.get?_push_size _ rfl
  refine ⟨⟨_, hS, rfl⟩, F.args_list_init_2 _ _, ?_⟩
  generalize hSS : s.heap.objs.size = S at hS ⊢
  have kp : Keeps s.heap (s.heap.push { cls := .type "list", data := .seq #[] }) := fun b o e => Heap.get?_push_of_some _ e
  have hne : ∀ b o, s.heap.get? b = some o → S ≠ b := fun b o e q => by
    have := Heap.lt_size e
    rw [← q, ← hSS] at this
    exact Nat.lt_irrefl _ this
  have hS0 : h₀.get? S = none := by
    cases q : h₀.get? S with
    | none => rfl
    | some o => exact absurd rfl (hne _ _ (Fh.keep _ _ q))
  have mJ : ∃ o, s.heap.get? J = some o := let ⟨o, e, _⟩ := M.mJ; ⟨o, e⟩
  have mD : ∃ o, s.heap.get? D = some o := let ⟨o, e, _⟩ := M.mD; ⟨o, e⟩
  have hSI : S ≠ I ∧ S ≠ T ∧ S ≠ J ∧ S ≠ D := ⟨hne _ _ M.mI, hne _ _ M.mT, hne _ _ mJ.choose_spec, hne _ _ mD.choose_spec⟩
  show wpAny _ _ (do let old ← Builtin.List.listItems (.ref S); Builtin.List.listUpdate (.ref S) (fun _ => #[]); letGo old.toList.reverse; Builtin.List.listExtendWith (.ref S) (.ref I) .none) _ _ _
  refine wpAny_bind ?_
  unfold Builtin.List.listItems
  refine wpAny_bind (wpAny_seqItems hS rfl (wpAny_pure ?_))
  show wpAny _ _ (updateSeq S (fun _ => #[]) >>= fun _ => letGo (#[] : Array Value).toList.reverse >>= fun _ => Builtin.List.listExtendWith (.ref S) (.ref I) .none) _ _ _
  refine wpAny_bind (wpAny_updateSeq hS rfl ?_)
  have hS₂ := Heap.get?_update_self (Obj.mapSeq (fun _ => (#[] : Array Value))) hS rfl
  have k2 : Keeps s.heap ((s.heap.push { cls := .type "list", data := .seq #[] }).update S (Obj.mapSeq (fun _ => (#[] : Array Value)))) :=
    fun b o e => (Heap.get?_update_other _ _ (hne b o e)).trans (kp b o e)
  generalize (s.heap.push { cls := .type "list", data := .seq #[] }).update S (Obj.mapSeq (fun _ => (#[] : Array Value))) = H2 at hS₂ k2 ⊢
  refine wpAny_bind (wpAny_letGo ?_)
  unfold Builtin.List.listExtendWith
  have M2 := M.keep k2
  have hT : ∀ tk, Shared.TypeIs { s with heap := H2, toks := tk } (.ref I) "map" := fun _ => ⟨_, M2.mI, rfl⟩
  refine wpAny_bind (wpAny_typeOf (hT _) ?_)
  have e1 : Builtin.List.listSameRef (.ref S) (.ref I) = false := by simp [Builtin.List.listSameRef, hSI.1]
  have e2 : (Value.type "map" == Value.type "list") = false := by decide
  have e3 : (Value.type "map" == Value.type "tuple") = false := by decide
  simp only [e1, e2, e3, Bool.or_false, Bool.false_eq_true, if_false]
  refine wpAny_bind (wpAny_pyIter_slot (hT _) slot_map_iter (wpAny_call_entry slot_map_iter (hT _) entry_map_iter ?_ (args_map_iter _)))
  show wpAny _ _ (ret (.ref I)) _ _ _
  refine wpAny_pure ⟨_, rfl, "map", _, hT _, slot_map_next.lookup, ?_⟩
  refine wpAny_bind (wpAny_holding ?_)
  unfold Builtin.List.listLengthHint
  refine wpAny_bind (wpAny_specialOf (hT _) look_map_len ?_)
  show wpAny _ _ (specialOf (Value.ref I) (Str.ofString "__length_hint__") >>= _) _ _ _
  refine wpAny_bind (wpAny_specialOf (hT _) look_map_hint ?_)
  refine wpAny_pure ?_
  show wpAny _ _ (rule "list.extend.makes-room" >>= fun _ => Builtin.List.listTouch (.ref S) >>= fun _ => again (.builtin "list.extend.loop" ⟨[.ref S, .ref I, .none], []⟩)) _ _ _
  refine wpAny_bind (wpAny_rule ?_)
  refine wpAny_bind ?_
  show wpAny _ _ (updateSeq S (·.push .none) >>= fun _ => updateSeq S (·.pop)) _ _ _
  refine wpAny_bind (wpAny_updateSeq hS₂ rfl ?_)
  have hS₄ := Heap.get?_update_self (Obj.mapSeq (·.push Value.none)) hS₂ rfl
  refine wpAny_updateSeq (hz := by seq_fits) hS₄ rfl ?_
  have hS₅ := Heap.get?_update_self (Obj.mapSeq (·.pop)) hS₄ rfl
  have k5 : Keeps s.heap ((H2.update S (Obj.mapSeq (·.push Value.none))).update S (Obj.mapSeq (·.pop))) :=
    fun b o e => (Heap.get?_update_other _ _ (hne b o e)).trans ((Heap.get?_update_other _ _ (hne b o e)).trans (k2 _ _ e))
  generalize (H2.update S (Obj.mapSeq (·.push Value.none))).update S (Obj.mapSeq (·.pop)) = H5 at hS₅ k5 ⊢
  refine wpAny_pure ⟨plainId_quiet F.plain_extend_loop _, ?_⟩
  refine loop_map (A := A.in1) X₀ T₀ hJ hS0 hi hlen hsz hh (by show A.depth < 880; omega) hSI ts.length 0 #[] _ { s with heap := H5 } (Nat.sub_zero _) (Nat.zero_le _) (fun b o e => k5 b o (Fh.keep b o e)) (M.keep k5) hS₅ Txs.nil fun h' tk acc n kb g1 g2 => ⟨rfl, ?_⟩
  obtain ⟨oL, es, ep, gL, dL, _⟩ := id Fh.ns
  have hSL : S ≠ L := hne _ _ gL
  have kk : ∀ b o, b ≠ J → s.heap.get? b = some o → h'.get? b = some o := fun b o hb e => kb b o (fun q => by
    rcases List.mem_cons.mp q with q | q
    · exact hb q
    · exact hne b o e (List.mem_singleton.mp q).symm) (k5 b o e)
  refine h h' tk S acc n g2 ⟨Fh.ns.at' fun o e => kk L o (Ne.symm hJL) e, fun b o e => kk b o (fun q => by rw [q, hJ] at e; cases e) (Fh.keep b o e), Fh.above⟩ (fun q hq => ?_) (fun q hq => ?_)
  · rcases List.mem_cons.mp hq with rfl | hq
    · exact ⟨g1, hSL, hS0⟩
    · exact ⟨kk _ _ (hJN q hq) (N q hq).1, (N q hq).2⟩
  · rw [← hSS]; exact Heap.lt_size (N q hq).1
end
end Mine
-- part Lr
set_option maxHeartbeats 8000000
namespace Mine
open PySem PySem.W PySem.Calls PyProof.Rows Mpp
/-- a goal that the walk is to leave for later -/
def Wait (p : Prop) : Prop := p
theorem wait_in {p : Prop} (h : Wait p) : p := h
theorem wait_out {p : Prop} (h : p) : Wait p := h
theorem Txs.of_strs {l : List (Str × Tok)} {ts : List Str} (e : l.map (·.1) = ts) : Txs (strValues l).toArray ts := by
  subst e
  refine ⟨by simp [strValues], fun i h => ?_⟩
  have h' : i < l.length := by simpa using h
  exact ⟨l[i].2, by simp [strValues, h']⟩
theorem Txs.set {xs : Array Value} {us : List Str} (h : Txs xs us) (k : Nat) (y : Str) (t : Tok) : Txs (xs.setIfInBounds k (.str y t)) (us.set k y) := by
  refine ⟨by simp [h.1], fun i hi => ?_⟩
  have hi' : i < us.length := by simpa using hi
  by_cases e : k = i
  · subst e
    refine ⟨t, ?_⟩
    rw [Array.getElem?_setIfInBounds_self_of_lt (by rw [h.1]; exact hi'), List.getElem_set_self]
  · obtain ⟨u, hu⟩ := h.2 i hi'
    refine ⟨u, ?_⟩
    rw [Array.getElem?_setIfInBounds_ne e, List.getElem_set_ne e]
    exact hu
theorem Txs.toStrs {xs : Array Value} {us : List Str} (h : Txs xs us) : ∃ l : List (Str × Tok), xs = (strValues l).toArray ∧ l.map (·.1) = us := by
  induction us generalizing xs with
  | nil =>
    refine ⟨[], ?_, rfl⟩
    have := h.1
    exact Array.size_eq_zero_iff.mp this
  | cons u us ih =>
    obtain ⟨t, ht⟩ := h.2 0 (by simp)
    have h2 : Txs (xs.toList.drop 1).toArray us := by
      refine ⟨by have := h.1; simp at this ⊢; omega, fun i hi => ?_⟩
      obtain ⟨t', ht'⟩ := h.2 (i + 1) (by simpa using hi)
      refine ⟨t', ?_⟩
      simp only [List.getElem_cons_succ] at ht'
      simp only [List.getElem?_toArray, List.getElem?_drop, Array.getElem?_toList]
      rw [Nat.add_comm 1 i]
      exact ht'
    obtain ⟨l, e1, e2⟩ := ih h2
    refine ⟨(u, t) :: l, ?_, by simp [e2]⟩
    apply Array.toList_inj.mp
    have e3 : xs.toList.drop 1 = strValues l := by simpa using congrArg Array.toList e1
    have h0 : xs.toList[0]? = some (.str u t) := by simpa using ht
    cases q : xs.toList with
    | nil => rw [q] at h0; cases h0
    | cons a r =>
      rw [q] at h0 e3
      cases h0
      simp only [List.drop_succ_cons, List.drop_zero] at e3
      rw [e3]; rfl
section
variable {w : World} {A : Around} {s : Shared} {p : Program} {loose : List Str} {mg mb : Str → Option Value} {h₀ : Heap} {L : Addr} {m : Str → Option Value} {Q E : Value → Shared → Prop}
theorem set_at {l : Addr} {xs : Array Value} {n : Nat} {k : Int} {t : Tok} {v : Value} {j : Nat} {Q : Unit → Shared → Prop} (hl : s.heap.get? l = some (lstO xs n)) (hf : Builtin.List.listFitsIndex k = true) (hk : k = (j : Int) ∨ (k < 0 ∧ seqIndex? k xs.size = some j)) (hj : j < xs.size)
    (hQ : ∀ h' n', h'.get? l = some (lstO (xs.setIfInBounds j v) n') → KeepsBut [l] s.heap h' → Q () { s with heap := h' }) :
    wpAny (model PG w) A (setItem (.ref l) (.int k t) v) Q E s := by
  have hT : s.TypeIs (.ref l) "list" := ⟨_, hl, rfl⟩
  have hx : xs[j]? = some xs[j] := Array.getElem?_eq_getElem hj
  unfold setItem
  try with_reducible refine wpAny_holding ?_
  first | refine wpAny_bind (wpAny_pure ?_) | skip
  refine wpAny_bind (wpAny_sequenceKey hT (by decide) ?_)
  refine wpAny_bind (wpAny_callSpecial?_slot (name := Str.ofString "__setitem__") hT slot_list_setitem
    (wpAny_call_entry slot_list_setitem hT entry_list_setitem ?_ (args_list_setitem _ _ _)))
  show wpAny _ _ (Builtin.List.listSubscript? (.int k t) >>= _) _ _ s
  refine wpAny_bind (wpAny_listSubscript_int hf ?_)
  have hfin := Heap.get?_update_self (Obj.mapSeq (·.setIfInBounds j v)) hl rfl
  have hkb : KeepsBut [l] s.heap (s.heap.update l (Obj.mapSeq (·.setIfInBounds j v))) := fun b o hb e => (Heap.get?_update_other _ _ (fun q : l = b => hb (by rw [q]; exact .head _))).trans e
  rcases hk with rfl | ⟨h0, hidx⟩
  · show wpAny _ _ ((seqItemAt l j >>= fun r => pure (r.map (j, ·))) >>= _) _ _ s
    refine wpAny_bind (wpAny_bind (wpAny_seqItemAt hl rfl (wpAny_pure ?_)))
    rw [hx]
    show wpAny _ _ (setSeqItemAt l j v >>= _) _ _ s
    refine wpAny_bind (wpAny_setSeqItemAt hl rfl ?_)
    first
      | exact wpAny_bind (wpAny_pure (wpAny_pure ⟨.none, rfl, wpAny_pure (hQ _ _ hfin hkb)⟩))
      | exact wpAny_pure ⟨.none, rfl, wpAny_pure (hQ _ _ hfin hkb)⟩
  · clear hf
    obtain ⟨i, rfl⟩ : ∃ i : Nat, k = Int.negSucc i := by
      cases k with
      | ofNat n => exact absurd h0 (Int.not_lt.mpr (Int.natCast_nonneg n))
      | negSucc n => exact ⟨n, rfl⟩
    show wpAny _ _ ((Builtin.List.listItems (.ref l) >>= fun xs => pure ((seqIndex? (Int.negSucc i) xs.size).bind fun i => xs[i]?.map (i, ·))) >>= _) _ _ s
    refine wpAny_bind (wpAny_bind ?_)
    show wpAny _ _ (seqItems? (.ref l) >>= _) _ _ s
    refine wpAny_bind (wpAny_seqItems hl rfl (wpAny_pure (wpAny_pure ?_)))
    rw [hidx]
    simp only [Option.bind_some, hx, Option.map_some]
    refine wpAny_bind (wpAny_setSeqItemAt hl rfl ?_)
    first
      | exact wpAny_bind (wpAny_pure (wpAny_pure ⟨.none, rfl, wpAny_pure (hQ _ _ hfin hkb)⟩))
      | exact wpAny_pure ⟨.none, rfl, wpAny_pure (hQ _ _ hfin hkb)⟩
variable {S : Addr} {xs : Array Value} {n : Nat} {us : List Str} {own : List (Addr × Obj)}
theorem k_len (N : News h₀ L s.heap ((S, lstO xs n) :: own)) (hi : Txs xs us) (hu : us.length < 1000000) (h : ∀ tk t', Q (.int (us.length : Int) t') { s with toks := tk }) :
    wpAny (model PG w) A (call (.builtin "len") [.ref S]) Q E s := by
  refine len_list ⟨_, (N _ (.head _)).1, rfl, _, rfl⟩ (by rw [hi.1]; omega) ?_
  rw [hi.1]
  exact h _ _
theorem k_get {value slice : Expr} {k : Nat} {u : Tok} (N : News h₀ L s.heap ((S, lstO xs n) :: own)) (hi : Txs xs us) (hu : us.length < 1000000) {y : Str} (hy : us[k]? = some y) (h : ∀ t', Q (.str y t') s)
    (hs : subscripted slice false (.ref S) (.int (k : Int) u) = operate [.ref S, .int (k : Int) u] (getItem (.ref S) (.int (k : Int) u)) := by with_unfolding_all rfl) (hg : ∀ r, letTemporaryGo value (.ref S) r = pure () := by intro _; with_unfolding_all rfl) :
    wpAny (model PG w) A (subscriptTail value slice (.ref S) (.int (k : Int) u)) Q E s := by
  obtain ⟨hk, rfl⟩ := List.getElem?_eq_some_iff.mp hy
  obtain ⟨t, ht⟩ := hi.2 k hk
  exact item_list ⟨_, (N _ (.head _)).1, rfl, _, rfl⟩ (by omega) (by omega) (by simpa using ht) (h t) hs hg
theorem k_getlast {value slice : Expr} {u : Tok} (N : News h₀ L s.heap ((S, lstO xs n) :: own)) (hi : Txs xs us) (hu : us.length < 1000000) {y : Str} (hy : us[us.length - 1]? = some y) (h : ∀ t', Q (.str y t') s)
    (hs : subscripted slice false (.ref S) (.int (-1) u) = operate [.ref S, .int (-1) u] (getItem (.ref S) (.int (-1) u)) := by with_unfolding_all rfl) (hg : ∀ r, letTemporaryGo value (.ref S) r = pure () := by intro _; with_unfolding_all rfl) :
    wpAny (model PG w) A (subscriptTail value slice (.ref S) (.int (-1) u)) Q E s := by
  obtain ⟨hk, rfl⟩ := List.getElem?_eq_some_iff.mp hy
  obtain ⟨t, ht⟩ := hi.2 (us.length - 1) (by omega)
  have hl : s.heap.IsList S xs := ⟨_, (N _ (.head _)).1, rfl, _, rfl⟩
  have e : ((-1 : Int) + (xs.size : Int)).toNat = us.length - 1 := by rw [hi.1]; omega
  exact subscriptTail_builtin hl.typeIs slot_list_getitem.lookup (wpAny_getItem_list_neg hl (by decide) (by rw [hi.1]; omega) (by decide) (by rw [e]; exact ht) (h t)) hs hg
theorem news_upd {S : Addr} {o o' : Obj} {h' : Heap} (N : News h₀ L s.heap ((S, o) :: own)) (ho : ∀ q ∈ own, q.1 ≠ S) (g : h'.get? S = some o') (kb : KeepsBut [S] s.heap h') : News h₀ L h' ((S, o') :: own) := fun q hq => by
  rcases List.mem_cons.mp hq with rfl | hq
  · exact ⟨g, (N _ (.head _)).2⟩
  · exact ⟨kb _ _ (fun z => ho q hq (List.mem_singleton.mp z)) (N q (.tail _ hq)).1, (N q (.tail _ hq)).2⟩
theorem fr_upd {S : Addr} {o : Obj} {h' : Heap} (Fh : Fr h₀ L s.heap m) (N : News h₀ L s.heap ((S, o) :: own)) (kb : KeepsBut [S] s.heap h') : Fr h₀ L h' m :=
  frBut Fh (fun q => (N _ (.head _)).2.1 (List.mem_singleton.mp q).symm) (fun a ha => by rw [List.mem_singleton.mp ha]; exact (N _ (.head _)).2.2) kb
theorem k_set {k : Nat} {t u : Tok} {y : Str} {Q : Unit → Shared → Prop} (Fh : Fr h₀ L s.heap m) (N : News h₀ L s.heap ((S, lstO xs n) :: own)) (ho : ∀ q ∈ own, q.1 ≠ S) (hi : Txs xs us) (hu : us.length < 1000000) (hk : k < us.length)
    (h : ∀ h' xs' n', Txs xs' (us.set k y) → Fr h₀ L h' m → News h₀ L h' ((S, lstO xs' n') :: own) → Q () { s with heap := h' }) :
    wpAny (model PG w) A (setItem (.ref S) (.int (k : Int) t) (.str y u)) Q E s :=
  set_at (N _ (.head _)).1 (fitsIndex_of (by omega) (by omega)) (.inl rfl) (by rw [hi.1]; exact hk) fun h' n' g kb => h h' _ n' (hi.set k y u) (fr_upd Fh N kb) (news_upd N ho g kb)
theorem k_setlast {t u : Tok} {y : Str} {Q : Unit → Shared → Prop} (Fh : Fr h₀ L s.heap m) (N : News h₀ L s.heap ((S, lstO xs n) :: own)) (ho : ∀ q ∈ own, q.1 ≠ S) (hi : Txs xs us) (hu : us.length < 1000000) (hk : 0 < us.length)
    (h : ∀ h' xs' n', Txs xs' (us.set (us.length - 1) y) → Fr h₀ L h' m → News h₀ L h' ((S, lstO xs' n') :: own) → Q () { s with heap := h' }) :
    wpAny (model PG w) A (setItem (.ref S) (.int (-1) t) (.str y u)) Q E s := by
  have e : ((-1 : Int) + (xs.size : Int)).toNat = us.length - 1 := by rw [hi.1]; omega
  refine set_at (j := us.length - 1) (N _ (.head _)).1 (fitsIndex_neg (by decide) (by decide)) (.inr ⟨by decide, ?_⟩) (by rw [hi.1]; omega) fun h' n' g kb => h h' _ n' (hi.set _ y u) (fr_upd Fh N kb) (news_upd N ho g kb)
  rw [seqIndex_neg (by decide) (by rw [hi.1]; omega), e]
theorem k_app {u : Tok} {y : Str} (Fh : Fr h₀ L s.heap m) (N : News h₀ L s.heap ((S, lstO xs n) :: own)) (ho : ∀ q ∈ own, q.1 ≠ S) (hi : Txs xs us) (hu : us.length < 1000000)
    (h : ∀ h' xs' n', Txs xs' (us ++ [y]) → Fr h₀ L h' m → News h₀ L h' ((S, lstO xs' n') :: own) → Q .none { s with heap := h' }) :
    wpAny (model PG w) A (call (.builtin "list.append") [.ref S, .str y u]) Q E s := by
  have hl := (N _ (.head _)).1
  refine call_meets slot_list_append ⟨_, hl, rfl⟩ entry_list_append (args_list_append _ _) (AutoListH.list_append_list_val_0 S xs n (.str y u) (by rw [hi.1]; simp only [sizeLine]; omega)) ⟨hl, ?_⟩
  have hfin := Heap.get?_update_self (Obj.mapSeq (·.push (Value.str y u))) hl rfl
  have hkb : KeepsBut [S] s.heap (s.heap.update S (Obj.mapSeq (·.push (Value.str y u)))) := fun b o hb e => (Heap.get?_update_other _ _ (fun q : S = b => hb (by rw [q]; exact .head _))).trans e
  exact h _ _ _ (hi.push y u) (fr_upd Fh N hkb) (news_upd N ho hfin hkb)
theorem k_joinlist {t : Tok} {sep : Str} (N : News h₀ L s.heap ((S, lstO xs n) :: own)) (hi : Txs xs us) (hok : JoinOk sep us = true) (h : ∀ tk t', Q (.str (Str.join sep us) t') { s with toks := tk }) :
    wpAny (model PG w) A (call (.builtin "str.join") [.str sep t, .ref S]) Q E s := by
  obtain ⟨l, rfl, e⟩ := hi.toStrs
  refine SC.join ⟨_, (N _ (.head _)).1, rfl, _, rfl⟩ e hok fun t' k => ?_
  have : Txt.join sep us = Str.join sep us := StrLaws.glued_eq_join sep _
  rw [this]; exact h _ _
end
end Mine
-- part Tp
set_option maxHeartbeats 8000000
namespace Mine
open PySem PySem.W PySem.Calls PyProof.Rows Mpp
section
variable {w : World} {A : Around} {s : Shared} {p : Program} {loose : List Str} {mg mb : Str → Option Value} {h₀ : Heap} {L : Addr} {m : Str → Option Value} {Q E : Value → Shared → Prop}
theorem k_split {x : Str} {t u : Tok} (Fh : Fr h₀ L s.heap m) (N : News h₀ L s.heap []) (hx : x.length < 1000000)
    (h : ∀ h' tk D xs, Txs xs (Txt.split x (Str.ofString "*")) → Fr h₀ L h' m → News h₀ L h' [(D, lstO xs 0)] → Q (.ref D) { s with heap := h', toks := tk }) :
    wpAny (model PG w) A (call (.builtin "str.split") [.str x t, .str (Str.ofString "*") u]) Q E s :=
  splitN1 Fh N (by decide) (fun l h' k e f n => h h' k _ _ (Txs.of_strs e) f n) (by simp only [sizeLine]; omega)
theorem k_map {l : Addr} {xs : Array Value} {n : Nat} (Fh : Fr h₀ L s.heap m) (N : News h₀ L s.heap [(l, lstO xs n)])
    (h : ∀ h' I T J, MapAt h' I T J l 0 xs → h₀.get? J = none → J ≠ L → Fr h₀ L h' m → Q (.ref I) { s with heap := h' }) :
    wpAny (model PG w) A (call (.type "map") [.ref 56, .ref l]) Q E s := by
  have hl := (N _ (.head _)).1
  have up : ∀ a, s.heap.get? a = none → h₀.get? a = none := fun a e => by
    cases q : h₀.get? a with
    | none => rfl
    | some o => rw [Fh.keep _ _ q] at e; cases e
  obtain ⟨oL, es, ep, gL, dL, _⟩ := id Fh.ns
  exact call_map hl fun h' I T J M k f1 f2 f3 ne => h h' I T J M (up _ f3) (fun q => by rw [q, gL] at f3; cases f3) (frK Fh k)
theorem k_listmap {I T J D : Addr} {xs : Array Value} {ts : List Str} (M : MapAt s.heap I T J D 0 xs) (Fh : Fr h₀ L s.heap m) (X₀ : (Mine.Ho.frag w.params).In h₀) (T₀ : TopRead p loose mg mb h₀)
    (hJ : h₀.get? J = none) (hJL : J ≠ L) (hi : Txs xs ts) (hlen : ∀ x ∈ ts, x.length < 1000000) (hsz : ts.length < 1000000) (hh : A.handled = none) (hd : A.depth < 870)
    (h : ∀ h' tk S acc n, Txs acc (ts.map escS) → Fr h₀ L h' m → News h₀ L h' [(S, lstO acc n)] → Q (.ref S) { s with heap := h', toks := tk }) :
    wpAny (model PG w) A (call (.type "list") [.ref I]) Q E s :=
  list_map (news := []) Fh (fun q hq => nomatch hq) X₀ T₀ M hJ hJL (fun q hq => nomatch hq) hi hlen hsz hh hd fun h' tk S acc n a b c _ => h h' tk S acc n a b c
/-- parts 1..k are wrapped -/
def wrapS (x : Str) : Str := Str.empty ++ Str.ofString "(?>.*?" ++ x ++ Str.ofString ")"
def stepT (k : Nat) (us : List Str) : List Str := us.take 1 ++ ((us.drop 1).take k).map wrapS ++ (us.drop 1).drop k
theorem stepT_len (k : Nat) (us : List Str) : (stepT k us).length = us.length := by
  unfold stepT
  simp only [List.length_append, List.length_map, List.length_take, List.length_drop]
  omega
theorem stepT_get (k : Nat) (us : List Str) (h1 : 1 ≤ k) (hk : k < us.length) : (stepT (k - 1) us)[k]? = us[k]? := by
  unfold stepT
  rw [List.getElem?_append_right (by simp only [List.length_append, List.length_map, List.length_take, List.length_drop]; omega)]
  simp only [List.length_append, List.length_map, List.length_take, List.length_drop, List.getElem?_drop]
  congr 1
  omega
theorem stepT_last (k : Nat) (us : List Str) (hk : k + 1 < us.length ∨ us.length = 1) : (stepT k us)[us.length - 1]? = us[us.length - 1]? := by
  unfold stepT
  rcases hk with hk | hk
  · rw [List.getElem?_append_right (by simp only [List.length_append, List.length_map, List.length_take, List.length_drop]; omega)]
    simp only [List.length_append, List.length_map, List.length_take, List.length_drop, List.getElem?_drop]
    congr 1
    omega
  · match us, hk with
    | [u], _ => simp
theorem stepT_set (k : Nat) (us : List Str) (y : Str) (h1 : 1 ≤ k) (hk : k < us.length) (hy : us[k]? = some y) : (stepT (k - 1) us).set k (wrapS y) = stepT k us := by
  match us, hk, hy with
  | u :: r, hk, hy =>
    obtain ⟨j, rfl⟩ : ∃ j, k = j + 1 := ⟨k - 1, by omega⟩
    have hj : j < r.length := by simpa using hk
    have hy' : r[j]? = some y := by simpa using hy
    unfold stepT
    simp only [Nat.add_sub_cancel, List.take_succ_cons, List.take_zero, List.drop_succ_cons, List.drop_zero, List.cons_append, List.nil_append, List.set_cons_succ]
    congr 1
    have e1 : ((r.take j).map wrapS).length = j := by simp; omega
    have hd : r.drop j = y :: r.drop (j + 1) := by
      have h3 := List.getElem?_eq_some_iff.mp hy'
      rw [List.drop_eq_getElem_cons hj, h3.2]
    have ht : r.take (j + 1) = r.take j ++ [y] := by rw [List.take_add_one, hy']; rfl
    rw [List.set_append_right _ _ (by rw [e1]; exact Nat.le_refl _), e1, Nat.sub_self, hd, List.set_cons_zero, ht, List.map_append]
    simp
theorem range_parts {env : Env} {xn : Str} {body : List Stmt} {Q : Flow → Shared → Prop} {r S : Addr} {b₀ : Int} {t₀ u₀ v₀ : Tok} {acc : Array Value} {n : Nat} {us : List Str} {m₀ : Str → Option Value}
    (hh : A.handled = none) (hr : IsRange s.heap r 1 b₀ 1 t₀ u₀ v₀) (hb : b₀ = (us.length : Int) - 1) (hu : us.length < 1000000) (hu1 : 1 ≤ us.length) (hul : ∀ y ∈ us, y.length < 2500000) (Fh : Fr h₀ env.locals s.heap m₀) (N : News h₀ env.locals s.heap [(S, lstO acc n)]) (hi : Txs acc us)
    (turn : ∀ (xs : Array Value) (n' k : Nat) (t : Tok) (u : Str → Option Value) (h : Heap) (tk : Nat) (own : List (Addr × Obj)) (pre : List Int) (vs : List Str) (y : Str), 1 ≤ k → k < us.length - 1 → k = 1 + pre.length → vs = stepT (k - 1) us → vs[k]? = some y → us[k]? = some y → y.length < 2500000 → vs.length < 1000000 → k < vs.length → Txs xs vs → (∀ q ∈ own, q.1 ≠ S) → Fr h₀ env.locals h (fun y => if y = xn then some (.int (k : Int) t) else kstB (fun z => if ([] : List Str).contains z then u z else m₀ z) [] y) → News h₀ env.locals h ((S, lstO xs n') :: own) →
      wpAny (model PG w) A (execs body env) (InvPostN h₀ env.locals (KstS (fun c : Array Value × Nat => [(S, lstO c.1 c.2)]) (fun _ => []) (fun _ => True) xn [] m₀ (fun pre c => Txs c.1 (stepT pre.length us)) (pre ++ [(k : Int)])) own [S] { s with heap := h, toks := tk } Q) E { s with heap := h, toks := tk })
    (done : ∀ (xs : Array Value) (n' : Nat) (u : Str → Option Value) (h : Heap) (tk : Nat) (vs : List Str) (y : Str), vs = stepT (us.length - 2) us → vs[vs.length - 1]? = some y → us[us.length - 1]? = some y → y.length < 2500000 → vs.length < 1000000 → 0 < vs.length → Txs xs vs → Fr h₀ env.locals h (fun y => if y = xn then u y else kstB (fun z => if ([] : List Str).contains z then u z else m₀ z) [] y) → News h₀ env.locals h [(S, lstO xs n')] → Q .next { s with heap := h, toks := tk }) :
    wpAny (model PG w) A (pyIter (.ref r)) (fun it s₂ => LoopAtV PG w A h₀ env xn body Q E it s₂) E s := by
  subst hb
  have hn : Builtin.Range.rangeSize 1 ((us.length : Int) - 1) 1 = ((us.length - 2 : Nat) : Int) := by
    unfold Builtin.Range.rangeSize
    simp only [show ((1 : Int) > 0) from by decide, if_true]
    split
    · omega
    · omega
  have hsm : Builtin.Range.small 1 ((us.length : Int) - 1) 1 = true := small_one (by decide) (by decide) (by omega) (by omega)
  refine kst_range (x := xn) (fun c : Array Value × Nat => [(S, lstO c.1 c.2)]) (fun _ => []) (fun _ => True) [] (fun pre c => Txs c.1 (stepT pre.length us)) (acc, n) hh hr hsm hn Fh N trivial (fun _ hp => nomatch hp) ?_ ?_ ?_
  · have : stepT 0 us = us := by
      match us, hu1 with
      | u :: r, _ => simp [stepT]
    show Txs acc (stepT 0 us)
    rw [this]; exact hi
  · intro c pre k t u h tk own hk hlt hoff _ hp F₁ N₁
    have e : k = ((1 + pre.length : Nat) : Int) := by rw [hk]; push_cast; rfl
    subst e
    have hg := stepT_get (1 + pre.length) us (by omega) (by omega)
    obtain ⟨y, hy⟩ : ∃ y, us[1 + pre.length]? = some y := ⟨us[1 + pre.length]'(by omega), List.getElem?_eq_getElem _⟩
    have hp' : Txs c.1 (stepT (1 + pre.length - 1) us) := by rw [Nat.add_sub_cancel_left]; exact hp
    exact turn c.1 c.2 (1 + pre.length) t u h tk own pre _ y (by omega) (by omega) rfl rfl (hg.trans hy) hy (hul y (List.mem_of_getElem? hy)) (by rw [stepT_len]; exact hu) (by rw [stepT_len]; omega) hp' (fun q hq => hoff q hq S (.head _)) F₁ N₁
  · intro c u h tk _ hp F₁ N₁
    have e : (rangeKs 1 (us.length - 2)).length = us.length - 2 := rangeKs_length _ _
    rw [e] at hp
    obtain ⟨y, hy⟩ : ∃ y, us[us.length - 1]? = some y := ⟨us[us.length - 1]'(by omega), List.getElem?_eq_getElem _⟩
    exact done c.1 c.2 u h tk _ y rfl (by rw [stepT_len]; exact (stepT_last _ us (by omega)).trans hy) hy (hul y (List.mem_of_getElem? hy)) (by rw [stepT_len]; exact hu) (by rw [stepT_len]; omega) hp F₁ N₁
def trParts (us : List Str) : List Str := (stepT (us.length - 2) us).set (us.length - 1) (Str.empty ++ Str.ofString ".*" ++ (us[us.length - 1]?).getD Str.empty)
def trS (x : Str) : Str := Str.join (Str.ofString "") (trParts ((Txt.split x (Str.ofString "*")).map escS))
abbrev lens (us : List Str) : Nat := (us.map (·.length)).sum
theorem wrap_len (x : Str) : (wrapS x).length = x.length + 7 := by
  k_with_none
  k_with "call builtin:len" => (refine' k_len ?k1 ?k2 ?k3 ?_; (case k1 => k_asm); (case k2 => assumption); (case k3 => first | assumption | (simp only [List.length_map]; assumption)); intro tk' t')
  k_with "pyIter ref" => (refine' range_parts ?k1 ?k2 ?k3 ?k4 ?k5 ?kz ?k6 ?k7 ?k8 ?_ ?_; (case k1 => (show Around.handled _ = _; assumption)); (case k2 => assumption); (case k3 => rfl); (case k4 => first | assumption | (simp only [List.length_map]; assumption)); (case k5 => first | assumption | (simp only [List.length_map]; assumption)); (case kz => assumption); (case k6 => k_asm); (case k7 => k_asm); (case k8 => assumption))
  k_with "subscriptTail" => first | (refine' k_get ?k1 ?k2 ?k3 ?k4 ?_; (case k1 => k_asm); (case k2 => assumption); (case k3 => assumption); (case k4 => assumption); intro t') | (refine' k_getlast ?k1 ?k2 ?k3 ?k4 ?_; (case k1 => k_asm); (case k2 => assumption); (case k3 => assumption); (case k4 => assumption); intro t')
  k_with "setItem ref int" => (refine' k_set ?k0 ?k1 ?k5 ?k2 ?k3 ?k4 ?_; (case k0 => k_asm); (case k1 => k_asm); (case k5 => assumption); (case k2 => assumption); (case k3 => assumption); (case k4 => assumption); intro h' xs' n' e' F' N'; (try k_sweep))
  k_with "setItem ref int" => (refine' k_setlast ?k0 ?k1 ?k5 ?k2 ?k3 ?k4 ?_; (case k0 => k_asm); (case k1 => k_asm); (case k5 => (intro _ q; cases q)); (case k2 => assumption); (case k3 => assumption); (case k4 => assumption); intro h' xs' n' e' F' N'; (try k_sweep))
  k_with "enter" => (k_dflt (case k1 => k_asm); (case k2 => exact TopRead.nolimit (by k_asm)); (case k3 => k_is); (case k4 => k_is); (case k6 => first | exact BindsTo.of_eq rfl | exact binds_K (by assumption) rfl (by k_is) rfl rfl rfl); (case k7 => exact locs rfl); (case c1 => exact rfl); (case c2 => exact rfl); (case c3 => exact rfl); (case c4 => decide))
  k_with "call builtin:str.split" => (refine' k_split ?k1 ?k2 ?k3 ?_; (case k1 => k_asm); (case k2 => k_asm); (case k3 => assumption); intro h' tk' D' xs' e' F' N'; (try k_sweep))
  k_with "call type:map" => (refine' k_map ?k1 ?k2 ?_; (case k1 => k_asm); (case k2 => k_asm); intro h' I' T' J' M' e1' e2' F')
  k_with "call type:list" => (refine' k_listmap ?k0 ?k1 ?k2 ?k3 ?k4 ?k5 ?k6 ?k7 ?k8 ?k9 ?ka ?_; (case k0 => assumption); (case k1 => k_asm); (case k2 => k_asm); (case k3 => k_asm); (case k4 => assumption); (case k5 => assumption); (case k6 => assumption); (case k7 => assumption); (case k8 => assumption); (case k9 => (show Around.handled _ = _; assumption)); (case ka => (show _ + 1 < _; omega)); intro h' tk' S' acc' n' e' F' N'; (try k_sweep))
  unfold wrapS
  rw [Str.length_append, Str.length_append, Str.length_append]
  show 0 + 6 + x.length + 1 = _
  omega
theorem lens_wrap (us : List Str) : lens (us.map wrapS) = lens us + 7 * us.length := by
  induction us with
  | nil => rfl
  | cons u us ih => simp only [lens, List.map_cons, List.sum_cons, List.length_cons, wrap_len] at ih ⊢; omega
theorem lens_app (a b : List Str) : lens (a ++ b) = lens a + lens b := by simp [lens]
theorem lens_step (k : Nat) (us : List Str) : lens (stepT k us) ≤ lens us + 7 * us.length := by
  have e : lens us = lens (us.take 1) + (lens ((us.drop 1).take k) + lens ((us.drop 1).drop k)) := by
    rw [← lens_app, List.take_append_drop, ← lens_app, List.take_append_drop]
  unfold stepT
  rw [lens_app, lens_app, lens_wrap, e]
  simp only [List.length_take, List.length_drop]
  omega
theorem lens_set (us : List Str) (k : Nat) (y : Str) : lens (us.set k y) ≤ lens us + y.length := by
  induction us generalizing k with
  | nil => exact Nat.zero_le _
  | cons u us ih =>
    cases k with
    | zero => simp only [lens, List.set_cons_zero, List.map_cons, List.sum_cons]; omega
    | succ k => have := ih k; simp only [lens, List.set_cons_succ, List.map_cons, List.sum_cons] at this ⊢; omega
theorem esc_len (x : Str) : (escS x).length ≤ 2 * x.length := by
  have := escL_len x.cps.toList
  show (escL x.cps.toList).toArray.size ≤ 2 * x.cps.size
  simpa using this
theorem lens_esc (us : List Str) : lens (us.map escS) ≤ 2 * lens us := by
  induction us with
  | nil => exact Nat.le_refl _
  | cons u us ih => simp only [lens, List.map_cons, List.sum_cons] at ih ⊢; have := esc_len u; omega
set_option maxHeartbeats 2000000 in
theorem translate_c {x : Str} {t : Tok} (X : (Mine.Ho.frag w.params).In s.heap) (T : TopRead p loose mg mb s.heap) (hh : A.handled = none) (hd : A.depth < 850) (hx9 : x.length < 900000)
    (h : ∀ h' tk t', Keeps s.heap h' → Q (.str (trS x) t') { s with heap := h', toks := tk }) :
    wpAny (model PG w) A (call (.ref 63) [.str x t]) Q E s := by
  have hx : x.length < 1000000 := by omega
  have hl1 : ∀ y ∈ Txt.split x (Str.ofString "*"), y.length < 1000000 := fun y hy => Nat.lt_of_le_of_lt (part_short hy) hx
  have hw := split_weight x (Str.ofString "*") (by decide)
  have hl2 : (Txt.split x (Str.ofString "*")).length < 1000000 := by omega
  have hl4 : ∀ y ∈ (Txt.split x (Str.ofString "*")).map escS, y.length < 2500000 := fun y hy => by
    obtain ⟨z, hz, rfl⟩ := List.mem_map.mp hy
    have := hl1 z hz
    have := esc_len z
    omega
  have hl3 : 1 ≤ (Txt.split x (Str.ofString "*")).length := split_pos _ _
  have hq : ∀ (v : Str) h' tk t', v = trS x → Keeps s.heap h' → Q (.str v t') { s with heap := h', toks := tk } := fun v h' tk t' e k => by rw [e]; exact h _ _ _ k
  clear h
  refine' call_fn (binds := [(Str.ofString "path", .str x t)]) ?k1 ?k2 ?k3 ?k4 ?k5 ?k6 ?k7 ?_ ?c1 ?c2 ?c3 ?c4
  walk_at "enter"
  case k5 => exact Nat.lt_trans hd (by decide)
  intro h₁ tk F N
  k_fold
  k_with "InvEndN" => (refine wait_in ?_)
  k_steps
  all_goals try refine wait_out ?_
  · rename Txs _ (List.set _ _ _) => eT
    rename Fr _ _ _ _ => F1
    rename News _ _ _ _ => N1
    rename (_ = 1 + List.length _) => ek
    rename (_ = stepT _ _) => ev
    rename (1 ≤ _) => e1
    rename (_ < List.length _ - 1) => e2
    rename ((List.map escS _)[_]? = some _) => ey
    refine kst_end (_, _) F1 N1 (fun p hp => by rw [List.mem_singleton.mp hp]; exact .head _) (fun p hp => .tail _ hp) rfl trivial (fun _ hp => nomatch hp) (fun z hz _ _ => ?_) ?_
    · show (if z = _ then _ else _) = _
      rw [if_neg hz]; rfl
    · show Txs _ (stepT (List.length (_ ++ [_])) _)
      rw [List.length_append, List.length_singleton, Nat.add_comm, ← ek]
      rw [ev] at eT
      have := stepT_set _ _ _ e1 (by omega) ey
      rw [wrapS] at this
      rw [this] at eT
      exact eT
  · rename Txs _ (List.set _ _ _) => eT
    rename Fr _ _ _ _ => F1
    rename News _ _ _ _ => N1
    rename (_ = stepT _ _) => ev
    rename ((List.map escS _)[_]? = some _) => ey
    rename (Str.length _ < 2500000) => ely
    rw [ev, stepT_len] at eT
    have eP := eT
    rw [show (stepT _ _).set _ (Str.empty ++ Str.ofString ".*" ++ _) = trParts ((Txt.split x (Str.ofString "*")).map escS) by rw [trParts, ey]; rfl] at eP
    refine k_joinlist N1 eP (joinOk_of ?_) fun tk' t' => hq _ _ _ _ rfl F1.keep
    have h1 := lens_set (stepT (((Txt.split x (Str.ofString "*")).map escS).length - 2) ((Txt.split x (Str.ofString "*")).map escS)) (((Txt.split x (Str.ofString "*")).map escS).length - 1) (Str.empty ++ Str.ofString ".*" ++ ((((Txt.split x (Str.ofString "*")).map escS)[((Txt.split x (Str.ofString "*")).map escS).length - 1]?).getD Str.empty))
    have h2 := lens_step (((Txt.split x (Str.ofString "*")).map escS).length - 2) ((Txt.split x (Str.ofString "*")).map escS)
    have h3 := lens_esc (Txt.split x (Str.ofString "*"))
    have h4 : (Str.empty ++ Str.ofString ".*" ++ ((((Txt.split x (Str.ofString "*")).map escS)[((Txt.split x (Str.ofString "*")).map escS).length - 1]?).getD Str.empty)).length ≤ 2500010 := by
      rw [ey, Str.length_append, Str.length_append]
      show 0 + 2 + Str.length _ ≤ _
      simp only [Option.getD_some]
      omega
    have h5 : (Str.ofString "").length = 0 := rfl
    rw [h5, Nat.mul_zero, Nat.add_zero]
    show lens (trParts _) ≤ _
    unfold trParts
    have h6 : ((Txt.split x (Str.ofString "*")).map escS).length = (Txt.split x (Str.ofString "*")).length := List.length_map _
    rw [h6] at h1 h2
    rw [h6] at h4 ⊢
    have hw' : lens (Txt.split x (Str.ofString "*")) + (Txt.split x (Str.ofString "*")).length ≤ x.length + 1 := hw
    omega
end
end Mine
-- part Lw
set_option maxHeartbeats 2000000
namespace Mine
open PySem PySem.W PySem.Calls PyProof.Rows Mpp
/-- all that is asked of the words -/
def WordsOk (ws : List Str) (n : Nat) : Prop := 2 ≤ ws.length ∧ ws[0]? = some (Str.ofString "a-b") ∧ lens ws + ws.length ≤ 13 + n
section
variable {w : World} {A : Around} {s : Shared} {p : Program} {loose : List Str} {mg mb : Str → Option Value} {h₀ : Heap} {L : Addr} {m : Str → Option Value} {Q E : Value → Shared → Prop}
theorem txs3 {a b c : Str} {t u v : Tok} : Txs #[.str a t, .str b u, .str c v] [a, b, c] := ⟨rfl, fun i h => by
  match i, h with
  | 0, _ => exact ⟨t, rfl⟩
  | 1, _ => exact ⟨u, rfl⟩
  | 2, _ => exact ⟨v, rfl⟩⟩
theorem words1 : WordsOk [Str.ofString "a-b", Str.ofString "*it's*", Str.ofString ""] 0 := ⟨by decide, rfl, by decide⟩
theorem words2 : WordsOk [Str.ofString "a-b", Str.ofString "it's", Str.ofString ""] 0 := ⟨by decide, rfl, by decide⟩
theorem mem_lens {y : Str} : ∀ {us : List Str}, y ∈ us → y.length ≤ lens us
  | u :: us, h => by
    simp only [lens, List.map_cons, List.sum_cons]
    rcases List.mem_cons.mp h with rfl | h
    · omega
    · have := mem_lens h; simp only [lens] at this; omega
theorem loop_words {env : Env} {xn : Str} {body : List Stmt} {Q : Flow → Shared → Prop} {l S : Addr} {vs : List Value} {ns : List Int} {acc : Array Value} {n : Nat} {us : List Str} {m₀ : Str → Option Value} {stored : List Str}
    (hh : A.handled = none) (hl : h₀.IsList l vs.toArray) (hiv : IntsAre vs ns) (hn : ns.length ≤ 63) (Fh : Fr h₀ env.locals s.heap m₀) (N : News h₀ env.locals s.heap [(S, lstO acc n)]) (hi : Txs acc us) (hW : WordsOk us 0) (hst : stored = [Str.ofString "rest", Str.ofString "point"])
    (turn : ∀ (xs : Array Value) (n' : Nat) (k : Int) (t : Tok) (u : Str → Option Value) (h : Heap) (tk : Nat) (own : List (Addr × Obj)) (pre : List Int) (us : List Str) (y : Str), pre.length < 63 → WordsOk us pre.length → us[us.length - 1]? = some y → y.length < 1000 → us.length < 1000000 → 0 < us.length → Txs xs us → (∀ q ∈ own, q.1 ≠ S) → Fr h₀ env.locals h (fun y => if y = xn then some (.int k t) else kstB (fun z => if stored.contains z then u z else m₀ z) [] y) → News h₀ env.locals h ((S, lstO xs n') :: own) →
      wpAny (model PG w) A (execs body env) (InvPostN h₀ env.locals (KstS (fun c : Array Value × Nat => [(S, lstO c.1 c.2)]) (fun _ => []) (fun _ => True) xn stored m₀ (fun pre c => ∃ us, Txs c.1 us ∧ WordsOk us pre.length) (pre ++ [k])) own [S] { s with heap := h, toks := tk } Q) E { s with heap := h, toks := tk })
    (done : ∀ (xs : Array Value) (n' : Nat) (u : Str → Option Value) (h : Heap) (tk : Nat) (us : List Str), WordsOk us 63 → Txs xs us → Fr h₀ env.locals h (fun y => if y = xn then u y else kstB (fun z => if stored.contains z then u z else m₀ z) [] y) → News h₀ env.locals h [(S, lstO xs n')] → Q .next { s with heap := h, toks := tk }) :
    wpAny (model PG w) A (pyIter (.ref l)) (fun it s₂ => LoopAtV PG w A h₀ env xn body Q E it s₂) E s := by
  refine kst_list (x := xn) (fun c : Array Value × Nat => [(S, lstO c.1 c.2)]) (fun _ => []) (fun _ => True) stored (fun pre c => ∃ us, Txs c.1 us ∧ WordsOk us pre.length) (acc, n) hh hl hiv Fh N trivial (fun _ hp => nomatch hp) ⟨us, hi, hW⟩ ?_ ?_
  · intro c pre post k t u h tk own e hk hoff _ hp F₁ N₁
    obtain ⟨vs', h1, h2⟩ := hp
    have hlen : pre.length < 63 := by
      have := congrArg List.length e
      simp only [List.length_append, List.length_cons] at this
      omega
    obtain ⟨q1, q2, q3⟩ := id h2
    obtain ⟨y, hy⟩ : ∃ y, vs'[vs'.length - 1]? = some y := ⟨vs'[vs'.length - 1]'(by omega), List.getElem?_eq_getElem _⟩
    have hyl : y.length ≤ lens vs' := mem_lens (List.mem_of_getElem? hy)
    exact turn c.1 c.2 k t u h tk own pre vs' y hlen h2 hy (by omega) (by omega) (by omega) h1 (fun q hq => hoff q hq S (.head _)) F₁ N₁
  · intro c u h tk _ hp F₁ N₁
    obtain ⟨vs', h1, q1, q2, q3⟩ := hp
    exact done c.1 c.2 u h tk vs' ⟨q1, q2, by omega⟩ h1 F₁ N₁
theorem WordsOk.app {us : List Str} {k : Nat} (h : WordsOk us k) : WordsOk (us ++ [Str.ofString ""]) (k + 1) := by
  obtain ⟨q1, q2, q3⟩ := h
  refine ⟨by simp; omega, ?_, ?_⟩
  · rw [List.getElem?_append_left (by omega)]; exact q2
  · rw [lens_app]
    have : lens [Str.ofString ""] = 0 := rfl
    simp only [List.length_append, List.length_singleton]
    omega
theorem lens_set_eq (us : List Str) (k : Nat) (y z : Str) (h : us[k]? = some y) : lens (us.set k z) + y.length = lens us + z.length := by
  induction us generalizing k with
  | nil => cases h
  | cons u us ih =>
    cases k with
    | zero => cases h; simp only [lens, List.set_cons_zero, List.map_cons, List.sum_cons]; omega
    | succ k => have := ih k h; simp only [lens, List.set_cons_succ, List.map_cons, List.sum_cons] at this ⊢; omega
theorem WordsOk.set {us : List Str} {k : Nat} (h : WordsOk us k) {y z : Str} (hy : us[us.length - 1]? = some y) (hz : z.length ≤ y.length + 1) : WordsOk (us.set (us.length - 1) z) (k + 1) := by
  obtain ⟨q1, q2, q3⟩ := h
  have := lens_set_eq us _ y z hy
  refine ⟨by simpa using q1, ?_, ?_⟩
  · rw [List.getElem?_set_ne (by omega)]; exact q2
  · rw [List.length_set]; omega
theorem words_c {l : Addr} {vs : List Value} {ns : List Int} (X : (Mine.Ho.frag w.params).In s.heap) (T : TopRead p loose mg mb s.heap) (hl : s.heap.IsList l vs.toArray) (hi : IntsAre vs ns) (hn : ns.length ≤ 63) (hh : A.handled = none) (hd : A.depth < 850)
    (h : ∀ h' tk S xs n ws, s.heap.get? S = none → h'.get? S = some (lstO xs n) → Txs xs ws → WordsOk ws 63 → Keeps s.heap h' → Q (.ref S) { s with heap := h', toks := tk }) :
    wpAny (model PG w) A (call (.ref 785) [.ref l]) Q E s := by
  k_with_none
  k_with "enter" => (k_dflt (case k1 => k_asm); (case k2 => exact TopRead.nolimit (by k_asm)); (case k3 => k_is); (case k4 => k_is); (case k6 => first | exact BindsTo.of_eq rfl | exact binds_K (by assumption) rfl (by k_is) rfl rfl rfl); (case k7 => exact locs rfl); (case c1 => exact rfl); (case c2 => exact rfl); (case c3 => exact rfl); (case c4 => decide))
  k_with "call builtin:sum" => (refine' sumK ?k0 ?k1 ?k2 ?k3 ?k4 ?_; (case k0 => (show Around.handled _ = _; assumption)); (case k1 => k_asm); (case k2 => k_asm); (case k3 => exact Heap.IsList.at (by assumption) (fun o e => Fr.keep (by assumption) _ o e)); (case k4 => assumption); intro h' tk' t' F' N'; (try k_sweep))
  k_with "exec For Name Name cons nil" => ((rename Fr _ _ _ _ => lF'); (with_unfolding_all refine' For_invVF lF' ?k1 ?k2 ?_; (case k1 => exact rfl); (case k2 => exact rfl); k_whole))
  k_with "pyIter ref" => (refine' loop_words ?k1 ?k2 ?k3 ?k4 ?k6 ?k7 ?k8 ?k9 ?ka ?_ ?_; (case k1 => (show Around.handled _ = _; assumption)); (case k2 => assumption); (case k3 => assumption); (case k4 => assumption); (case k6 => k_asm); (case k7 => k_asm); (case k8 => exact txs3); (case k9 => first | exact words1 | exact words2); (case ka => exact rfl))
  k_with "call builtin:list.append" => (refine' k_app ?k0 ?k1 ?k5 ?k2 ?k3 ?_; (case k0 => k_asm); (case k1 => k_asm); (case k5 => assumption); (case k2 => assumption); (case k3 => assumption); intro h' xs' n' e' F' N'; (try k_sweep))
  k_with "subscriptTail" => (refine' k_getlast ?k1 ?k2 ?k3 ?k4 ?_; (case k1 => k_asm); (case k2 => assumption); (case k3 => assumption); (case k4 => assumption); intro t')
  k_with "setItem ref int" => (refine' k_setlast ?k0 ?k1 ?k5 ?k2 ?k3 ?k4 ?_; (case k0 => k_asm); (case k1 => k_asm); (case k5 => assumption); (case k2 => assumption); (case k3 => assumption); (case k4 => assumption); intro h' xs' n' e' F' N'; (try k_sweep))
  refine' call_fn (binds := [(Str.ofString "numbers", .ref l)]) ?k1 ?k2 ?k3 ?k4 ?k5 ?k6 ?k7 ?_ ?c1 ?c2 ?c3 ?c4
  walk_at "enter"
  case k5 => exact Nat.lt_trans hd (by decide)
  intro h₁ tk F N
  k_fold
  k_with "InvEndN" => (refine wait_in ?_)
  k_steps
  all_goals try refine wait_out ?_
  all_goals (rename Fr _ _ _ _ => F1; rename News _ _ _ _ => N1)
  all_goals try (
    rename WordsOk _ (List.length _) => hWo
    refine kst_end (_, _) F1 N1 (fun p hp => by rw [List.mem_singleton.mp hp]; exact .head _) (fun p hp => .tail _ hp) rfl trivial (fun _ hp => nomatch hp) (fun z hz _ hs => ?_) ?_
    · have h1 : z ≠ Str.ofString "rest" := fun q => by rw [q] at hs; exact absurd hs (by decide)
      have h2 : z ≠ Str.ofString "point" := fun q => by rw [q] at hs; exact absurd hs (by decide)
      have h3 : ¬ [Str.ofString "rest", Str.ofString "point"].contains z = true := by rw [hs]; decide
      first
        | (rw [if_neg h1, if_neg hz]; exact if_neg h3)
        | (rw [if_neg h2, if_neg h1, if_neg hz]; exact if_neg h3)
    · rw [List.length_append, List.length_singleton]
      first
        | (rename Txs _ (_ ++ [_]) => eT; exact ⟨_, eT, hWo.app⟩)
        | (rename Txs _ (List.set _ _ _) => eT
           rename (_[_]? = some _) => hy
           exact ⟨_, eT, hWo.set hy (by rw [Str.length_append]; exact Nat.le_refl _)⟩))
  all_goals (
    rename WordsOk _ 63 => hWo
    rename Txs _ _ => eT
    exact h _ _ _ _ _ _ (N1 _ (.head _)).2.2 (N1 _ (.head _)).1 eT hWo F1.keep)
end
end Mine
-- part Lc
set_option maxHeartbeats 2000000
namespace Mine
open PySem PySem.W PySem.Calls PyProof.Rows Mpp
section
variable {w : World} {A : Around} {s : Shared} {Q E : Value → Shared → Prop}
theorem elt_count {cenv : Env} {m₂ : Str → Option Value} {x : Str} {t : Tok} {p1 p2 p4 : Pos} {pl : Sem Bool} {e : Expr} (hn : s.heap.Ns cenv.locals m₂) (hm : m₂ (Str.ofString "word") = some (.str x t)) (hk : cenv.scope.kind = .function) (h2 : cenv.kindOf (Str.ofString "word") = some .local)
    (he : eval (.Call (.Attribute (.Name (Str.ofString "word") p1) (Str.ofString "count") p2) [e] [] p4) cenv = (do
      let ov ← eval (.Name (Str.ofString "word") p1) cenv
      standAt p2.atName
      let (f, first) ← holding [ov] (getMethod ov (Str.ofString "count") pl)
      callWith p4 f first (backTo p4 (starEach [e] cenv)) []))
    (hee : starEach [e] cenv = [(false, eval e cenv)]) (hec : eval e cenv = constValue cenv (.str (Str.ofString "*")))
    (h : ∀ tk t', Q (.int (Txt.count x (Str.ofString "*")) t') { s with toks := tk }) :
    wpAny (model PG w) A (eval (.Call (.Attribute (.Name (Str.ofString "word") p1) (Str.ofString "count") p2) [e] [] p4) cenv) Q E s := by
  refine MethodCall_ ?_ he
  refine wpAny_Name (wpAny_loadName_local hk h2 hn hm ?_) (by decide)
  refine GM.count ?_
  refine callWith_method1 ?_ hee rfl
  rw [hee]
  refine spliced_cons ?_
  rw [hec]
  refine wpAny_mkStr (x := Str.ofString "*") ?_ (by decide)
  refine spliced_nil ?_
  exact SC.count (h _ _)
theorem intsAre_of {ys : List Value} : ∀ {ns : List Int}, CarriedAll ys (ns.map PyData.int) → IntsAre ys ns := by
  induction ys with
  | nil => intro ns h; cases ns with
    | nil => exact .nil
    | cons => cases h
  | cons y ys ih => intro ns h; cases ns with
    | nil => cases h
    | cons n ns =>
      cases h with
      | cons h1 h2 =>
        cases h1 with
        | int _ t => exact .cons n t (ih h2)
end
end Mine
-- part Ld
set_option maxHeartbeats 2000000
namespace Mine
open PySem PySem.W PySem.Calls PyProof.Rows Mpp
def plainT : Str := Str.ofString "abcdefghijklmnopqrstuvwxyzABCDEFGHIJKLMNOPQRSTUVWXYZ0123456789_@%+=:,./-"
def specT : Str := Str.ofString "()[]{}?+-|^$\\.&~# \t\n\r\x0b\x0c"
def bareW (wd : Str) : Bool := ((signs wd).filter fun g => !Txt.contains plainT g).isEmpty
def tellSign (bare : Bool) (stars : Int) (st : Str × Int) (n : Nat) : Str × Int :=
  if n = 42 then (st.1 ++ ((if st.2 + 1 > 1 then Str.ofString ")" else Str.ofString "")) ++ (if st.2 + 1 = stars then Str.ofString ".*" else Str.ofString "(?>.*?"), st.2 + 1)
  else if bare = false ∧ Txt.contains specT ⟨#[n]⟩ = true then (st.1 ++ Str.ofString "\\" ++ ⟨#[n]⟩, st.2) else (st.1 ++ ⟨#[n]⟩, st.2)
def tellWord (stars : Int) (st : Str × Int) (wd : Str) : Str × Int := wd.cps.toList.foldl (tellSign (bareW wd) stars) st
def tellAt (stars : Int) (k : Nat) (st : Str × Int) (wd : Str) : Str × Int := tellWord stars (if k > 0 then (st.1 ++ Str.ofString " ", st.2) else st) wd
def tellTo (stars : Int) (st : Str × Int) : List Str → Nat → Str × Int
  | [], _ => st
  | wd :: r, k => tellTo stars (tellAt stars k st wd) r (k + 1)
theorem tellTo_snoc (stars : Int) (wd : Str) : ∀ (ws : List Str) (st : Str × Int) (k : Nat), tellTo stars st (ws ++ [wd]) k = tellAt stars (k + ws.length) (tellTo stars st ws k) wd
  | [], st, k => rfl
  | a :: r, st, k => by
    show tellTo stars (tellAt stars k st a) (r ++ [wd]) (k + 1) = _
    rw [tellTo_snoc stars wd r]
    show tellAt stars (k + 1 + r.length) _ wd = tellAt stars (k + (r.length + 1)) _ wd
    rw [Nat.add_assoc, Nat.add_comm 1]
    rfl
theorem sign_len (bare : Bool) (stars : Int) (st : Str × Int) (n : Nat) : (tellSign bare stars st n).1.length ≤ st.1.length + 8 := by
  unfold tellSign
  split
  · simp only [Str.length_append]
    have h1 : (if st.2 + 1 > 1 then Str.ofString ")" else Str.ofString "").length ≤ 1 := by split <;> decide
    have h2 : (if st.2 + 1 = stars then Str.ofString ".*" else Str.ofString "(?>.*?").length ≤ 6 := by split <;> decide
    omega
  · split
    · simp only [Str.length_append]
      show st.1.length + 1 + 1 ≤ _
      omega
    · simp only [Str.length_append]
      show st.1.length + 1 ≤ _
      omega
theorem fold_len (bare : Bool) (stars : Int) : ∀ (l : List Nat) (st : Str × Int), (l.foldl (tellSign bare stars) st).1.length ≤ st.1.length + 8 * l.length
  | [], st => by simp
  | n :: l, st => by
    have h1 := fold_len bare stars l (tellSign bare stars st n)
    have h2 := sign_len bare stars st n
    simp only [List.foldl_cons, List.length_cons]
    omega
theorem at_len (stars : Int) (k : Nat) (st : Str × Int) (wd : Str) : (tellAt stars k st wd).1.length ≤ st.1.length + 1 + 8 * wd.length := by
  unfold tellAt tellWord
  have h1 := fold_len (bareW wd) stars wd.cps.toList (if k > 0 then (st.1 ++ Str.ofString " ", st.2) else st)
  have h2 : (if k > 0 then (st.1 ++ Str.ofString " ", st.2) else st).1.length ≤ st.1.length + 1 := by
    split
    · rw [Str.length_append]; exact Nat.le_refl _
    · omega
  have h3 : wd.cps.toList.length = wd.length := by simp [Str.length]
  omega
theorem to_len (stars : Int) : ∀ (ws : List Str) (st : Str × Int) (k : Nat), (tellTo stars st ws k).1.length ≤ st.1.length + ws.length + 8 * lens ws
  | [], st, k => by simp [tellTo]
  | wd :: r, st, k => by
    have h1 := to_len stars r (tellAt stars k st wd) (k + 1)
    have h2 := at_len stars k st wd
    simp only [tellTo, lens, List.map_cons, List.sum_cons, List.length_cons] at h1 ⊢
    omega
def starsOf (ws : List Str) : Int := (ws.map fun x => Txt.count x (Str.ofString "*")).sum
def toldS (ws : List Str) : Str := (tellTo (starsOf ws) (if starsOf ws > 0 then Str.ofString "" else Str.ofString ".*", 0) ws 0).1
end Mine
-- part Lb
set_option maxHeartbeats 2000000
namespace Mine
open PySem PySem.W PySem.Calls PyProof.Rows Mpp
section
variable {w : World} {A : Around} {s : Shared} {h₀ : Heap} {L : Addr} {m : Str → Option Value} {Q E : Value → Shared → Prop}
def notPlain : Value → Bool
  | .str x _ => !Txt.contains plainT x
  | _ => false
theorem filter_len {vs : List Value} : ∀ {as : List Str}, AreOf ItemKind.str vs as → (vs.filter notPlain).length = (as.filter fun g => !Txt.contains plainT g).length := by
  induction vs with
  | nil => intro as h; cases h; rfl
  | cons v vs ih =>
    intro as h
    cases h with
    | cons h1 h2 =>
      obtain ⟨t, rfl⟩ := h1
      have := ih h2
      simp only [List.filter_cons, notPlain]
      split <;> simp_all
theorem paired_len {F : Value → Value → Prop} {a b : List Value} (h : Paired F a b) : a.length = b.length := by
  induction h with
  | nil => rfl
  | cons _ _ ih => simp [ih]
def BarePost (w : World) (A : Around) (env : Env) (scope : Scope) (cl : List (Str × Addr)) (ct elt : Expr) (Q : Value → Shared → Prop) (it : Value) (s₂ : Shared) : Prop :=
  ∃ I fp wr n P St, it = .ref I ∧ Walks PG w A I fp wr n P St ∧ n ≤ sizeLine ∧ St 0 s₂.heap ∧ (∀ b ∈ fp, b < s₂.heap.objs.size) ∧
      QuietOnC PG w A env scope cl (Str.ofString "sign") [ct] elt wr P notPlain (fun v y => y = v) s₂ ∧
      (∀ D h' tk ys (vs : List Value), s₂.heap.get? D = none → h'.IsList D ys → h'.PlainList D ys → vs.length = n → (∀ j v, vs[j]? = some v → P j v) → Paired (fun v y => y = v) (vs.filter notPlain) ys.toList →
        (∀ b o, b ∉ wr → s₂.heap.get? b = some o → h'.get? b = some o) → Q (.ref D) { s₂ with heap := h', toks := tk })
theorem ListComp_bare {env : Env} {elt iter ct : Expr} {px : Pos} {scope : Scope} {cl : List (Str × Addr)} {pos : Pos}
    (hclos : closureFor scope env = pure cl) (hcell : ∀ y ∈ scope.names, y.2 ≠ .cell) (hkind : scope.kind = .function)
    (hnames : ∀ y ∈ scope.names, y.2 = .local → scope.names.lookup y.1 = some .local) (hx : scope.names.lookup (Str.ofString "sign") = some .local)
    (h : wpAny (model PG w) A (eval iter env) (fun xv s₁ => wpAny (model PG w) A (pyIter xv) (BarePost w A env scope cl ct elt Q) E s₁) E s)
    (hs : ∀ x, foldedSetIterable iter env x = pure x := by intro _; rfl) :
    wpAny (model PG w) A (eval (.ListComp elt [⟨.Name (Str.ofString "sign") px, iter, [ct], 0⟩] scope pos) env) Q E s :=
  wpAny_ListComp_free notPlain (fun v y => y = v) hclos hcell hkind hnames hx h hs
theorem pyIter_bare {env : Env} {scope : Scope} {wd : Str} {tw tp : Tok} {cl : List (Str × Addr)} {ca : Addr} {o : Obj} {own : List (Addr × Obj)} {ct elt : Expr}
    (hh : A.handled = none) (Fh : Fr h₀ L s.heap m) (N : News h₀ L s.heap ((ca, o) :: own)) (hd : o.data = .cell (some (.str plainT tp))) (hw : wd.length < 1001)
    (g1 : ∀ C (x : Str) (t : Tok) (s₃ : Shared) m₃ E' (Q' : Bool → Shared → Prop), s₃.heap.Ns C m₃ → m₃ (Str.ofString "sign") = some (.str x t) → s₃.heap.IsCell ca (some (.str plainT tp)) → Q' (!Txt.contains plainT x) s₃ → wpAny (model PG w) A (isTrue ct (compEnvC scope cl C env) (eval ct (compEnvC scope cl C env))) Q' E' s₃)
    (g2 : ∀ C (x : Str) (t : Tok) (s₃ : Shared) m₃ E' (Q' : Value → Shared → Prop), s₃.heap.Ns C m₃ → m₃ (Str.ofString "sign") = some (.str x t) → Q' (.str x t) s₃ → wpAny (model PG w) A (eval elt (compEnvC scope cl C env)) Q' E' s₃)
    (h : ∀ D ys n h' tk, ys.isEmpty = bareW wd → Fr h₀ L h' m → News h₀ L h' ((D, lstO ys n) :: (ca, o) :: own) → Q (.ref D) { s with heap := h', toks := tk }) :
    wpAny (model PG w) A (pyIter (.str wd tw)) (BarePost w A env scope cl ct elt Q) E s := by
  refine wpAny_pyIter_str fun ob St W hst => ?_
  have up : ∀ (h' : Heap), (∀ b o', b ∉ [s.heap.objs.size] → (s.heap.push ob).get? b = some o' → h'.get? b = some o') → Keeps s.heap h' := fun h' hk b o' e => hk b o' (old_not_new e) (Heap.get?_push_of_some _ e)
  have hc : ∀ (h' : Heap), Keeps s.heap h' → h'.IsCell ca (some (.str plainT tp)) := fun h' k => ⟨o, k _ _ (N _ (.head _)).1, hd⟩
  refine ⟨s.heap.objs.size, [s.heap.objs.size], [s.heap.objs.size], wd.cps.size, SignAt wd, St, rfl, W A hh, (by have : wd.cps.size < 1001 := hw; simp only [sizeLine]; omega), hst, ?_, ⟨?_, ?_⟩, ?_⟩
  · intro b hb
    show b < (s.heap.push ob).objs.size
    rw [Heap.size_push, List.mem_singleton.mp hb]
    exact Nat.lt_succ_self _
  · intro C i v s₃ m₃ E' _ hP hn hm hk _
    obtain ⟨c, u, _, rfl⟩ := hP
    rw [List.forIn_cons]
    simp only [if_true]
    refine wpAny_bind (wpAny_bind (g1 C ⟨#[c]⟩ u s₃ m₃ E' _ hn hm (hc _ (up _ hk)) (wpAny_pure ?_)))
    dsimp only
    rw [List.forIn_nil]
    exact wpAny_pure ⟨rfl, _, _, rfl, fun _ _ e => e⟩
  · intro C i v s₃ m₃ E' _ hP _ hn hm hk _
    obtain ⟨c, u, _, rfl⟩ := hP
    exact g2 C ⟨#[c]⟩ u s₃ m₃ E' _ hn hm ⟨rfl, _, _, rfl, fun _ _ e => e⟩
  · intro D h' tk ys vs hnew hlD hpl hlen hP hF hk
    have k := up _ hk
    obtain ⟨nn, hpl⟩ := hpl
    have hD0 : s.heap.get? D = none := by
      cases q : s.heap.get? D with
      | none => rfl
      | some o' => rw [show (s.heap.push ob).get? D = some o' from Heap.get?_push_of_some _ q] at hnew; cases hnew
    have hDL : D ≠ L := fun e => by
      obtain ⟨o', _, _, e', _⟩ := id Fh.ns
      rw [← e, hD0] at e'; cases e'
    have hDh : h₀.get? D = none := by
      cases q : h₀.get? D with
      | none => rfl
      | some o' => rw [Fh.keep _ _ q] at hD0; cases hD0
    refine h D ys nn h' tk ?_ (frK Fh k) (fun q hq => ?_)
    rotate_left
    · rcases List.mem_cons.mp hq with rfl | hq
      · exact ⟨hpl, hDL, hDh⟩
      · exact newsK N k q hq
    have h1 := filter_len (areOf_signs hlen hP)
    have h2 := paired_len hF
    unfold bareW
    rw [h2] at h1
    cases q : (signs wd).filter fun g => !Txt.contains plainT g with
    | nil => rw [q] at h1; have : ys.size = 0 := by simpa using h1
             simp [Array.isEmpty, this]
    | cons a r => rw [q] at h1; have : ys.size ≠ 0 := by simp at h1; omega
                  simp [Array.isEmpty, this]
end
end Mine
-- part Lt0
set_option maxHeartbeats 2000000
namespace Mine
open PySem PySem.W PySem.Calls PyProof.Rows Mpp
section
variable {prog : Program} {w : World} {A : Around} {s : Shared} {K : Frag} {Q : Value → Shared → Prop} {E : Value → Shared → Prop} {name qual : Str} {params : Arguments} {body : List Stmt} {scope : Scope}
    {dV kV doc pm cdv ct oc : Value} {an od : Option Addr} {osl : Array (Option Value)} {f : Addr} {pos : List Value} {kw : List (Str × Value)} {binds : List (Str × Value)}
theorem call_fnC (X : K.In s.heap) (hlim : s.heap.NoLimit)
    (ho : K.lookup f = some ⟨oc, od, .func (fnOf name qual params body scope dV kV doc pm an cdv ct), osl⟩) (hcd : codeIn K cdv qual = true) (hroom : A.depth < recursionLimit)
    (hbind : BindsTo s (fnOf name qual params body scope dV kV doc pm an cdv ct) ⟨pos, kw⟩ binds) (hkind : (binds.all fun y => scope.names.lookup y.1 == some .local || scope.names.lookup y.1 == some .cell) = true)
    (hnd : ((cellsFrom 0 scope.names []).map (·.1)).Nodup)
    (h : ∀ h₁ tk cells, Fr s.heap s.heap.objs.size h₁ (bindL (envOfC qual scope s.heap.objs.size f cdv).kindOf binds fun _ => none) → News s.heap s.heap.objs.size h₁ cells →
      CellsAre (bindC (envOfC qual scope s.heap.objs.size f cdv).kindOf binds fun _ => none) (cellsFrom (s.heap.objs.size + 1) scope.names []) cells →
      wpAny (model prog w) (A.deeper (envOfC qual scope s.heap.objs.size f cdv)) (execs body (envOfC qual scope s.heap.objs.size f cdv))
        (fun fl s' => Q (match fl with | .ret v => v | _ => .none) s') (fun _ _ => False)
        { s with heap := h₁, toks := tk })
    (hco : scope.isCoroutine = false) (hgen : scope.isGenerator = false) (hk : scope.kind = .function) : wpAny (model prog w) A (call (.ref f) pos kw) Q E s := by
  refine wpAny_call (codeAny_call_function hroom (X _ _ ho) rfl hco hgen rfl (codeRec_of X hcd) (hbind _ _ _ _ ?_))
  refine wpAny_newFunctionEnv_cells hk (kindsX hkind _) fun env' he s' x => ?_
  subst he
  refine ⟨hlim.keeps x.toInCall.keep, codeAny_func ?_⟩
  obtain ⟨h₁, tk, rfl, _⟩ := x.done
  obtain ⟨cells, NC, Y⟩ := Cl.news (h₀ := s.heap) (Nat.le_refl _) fun n c hm => ⟨x.cell n c (lookup_of_mem_nodup (cellsFrom_names scope.names 0 (s.heap.objs.size + 1) [] [] rfl ▸ hnd) hm), x.above n c hm⟩
  exact wpAny_mono (h h₁ tk cells ⟨x.toInCall.ns, x.toInCall.keep, Nat.le_refl _⟩ NC Y) (fun _ _ y => y) fun _ _ y => y.elim
end
section
variable {w : World} {A : Around} {s : Shared} {p : Program} {loose : List Str} {mg mb : Str → Option Value} {h₀ : Heap} {L : Addr} {m : Str → Option Value} {Q E : Value → Shared → Prop}
theorem comp_counts {env : Env} {scope : Scope} {elt : Expr} {l : Addr} {vs : List Value} {ws : List Str} {news : List (Addr × Obj)} (hh : A.handled = none) (Fh : Fr h₀ L s.heap m) (N : News h₀ L s.heap news) (hl : h₀.IsList l vs.toArray) (hi : StrsAre vs ws) (hn : ws.length ≤ 1000)
    (g2 : ∀ C (x : Str) (t : Tok) (s₂ : Shared) m₂ E' (Q' : Value → Shared → Prop), s₂.heap.Ns (compEnv scope C env).locals m₂ → m₂ (Str.ofString "word") = some (.str x t) → (∀ tk t', Q' (.int (Txt.count x (Str.ofString "*")) t') { s₂ with toks := tk }) → wpAny (model PG w) A (eval elt (compEnv scope C env)) Q' E' s₂)
    (h : ∀ D ys h' tk, h'.IsList D ys.toArray → IntsAre ys (ws.map fun x => Txt.count x (Str.ofString "*")) → Fr h₀ L h' m → News h₀ L h' news → Q (.ref D) { s with heap := h', toks := tk }) :
    wpAny (model PG w) A (pyIter (.ref l)) (CompPost PG w A env scope (Str.ofString "word") [] elt Q) E s := by
  refine srcC_listD (K := ItemKind.str) (pz := fun _ => true) (d := fun a => PyData.int (Txt.count a (Str.ofString "*"))) (as := ws) hh (hl.at fun o e => Fh.keep l o e) ?_ Fh N ?_ ?_ ?_ (by simp only [sizeLine]; omega)
  · exact hi.areOf
  · intro C a v s₂ m₂ E' _ _ _ _
    exact wpAny_pure ⟨rfl, _, _, rfl, fun _ _ e => e⟩
  · intro C a v s₂ m₂ E' ha _ hns hm _
    obtain ⟨t, rfl⟩ := ha
    exact g2 C a t s₂ m₂ E' _ hns hm fun tk t' => ⟨.int _ _, _, _, rfl, fun _ _ e => e⟩
  · intro D ys h' tk F' N' _ hl' _ hc
    refine h D ys h' tk hl' ?_ F' N'
    rw [List.filter_eq_self.mpr (fun _ _ => rfl)] at hc
    exact intsAre_of (by rw [List.map_map]; exact hc)
abbrev TS : Type := Str × Tok × Int × Tok
abbrev tsP (c : TS) : List (Str × Value) := [(Str.ofString "told", .str c.1 c.2.1), (Str.ofString "seen", .int c.2.2.1 c.2.2.2)]
abbrev stoP : List Str := [Str.ofString "bare", Str.ofString "sign"]
theorem loop_places {env : Env} {body : List Stmt} {Q : Flow → Shared → Prop} {r cl : Addr} {o : Obj} {b₀ : Int} {t₀ u₀ v₀ t1 t2 : Tok} {ws : List Str} {m₀ : Str → Option Value} {i0 : Int} {s0 : Str}
    (hh : A.handled = none) (hr : IsRange s.heap r 0 b₀ 1 t₀ u₀ v₀) (hb0 : b₀ = (ws.length : Int)) (hb : lens ws + ws.length ≤ 1000) (Fh : Fr h₀ env.locals s.heap m₀) (N : News h₀ env.locals s.heap [(cl, o)])
    (v1 : m₀ (Str.ofString "told") = some (.str s0 t1)) (v2 : m₀ (Str.ofString "seen") = some (.int i0 t2)) (hs0 : s0.length ≤ 2)
    (turn : ∀ (told : Str) (tt : Tok) (seen : Int) (ts : Tok) (k : Nat) (t : Tok) (u : Str → Option Value) (h : Heap) (tk : Nat) (own : List (Addr × Obj)) (pre : List Int) (wd : Str), k < ws.length → k = pre.length → ws[k]? = some wd → (told, seen) = tellTo (starsOf ws) (s0, i0) (ws.take k) 0 → told.length < 10000 → wd.length < 1001 → (∀ q ∈ own, q.1 ≠ cl) →
      Fr h₀ env.locals h (fun y => if y = Str.ofString "place" then some (.int (k : Int) t) else kstB (fun z => if stoP.contains z then u z else m₀ z) [(Str.ofString "told", .str told tt), (Str.ofString "seen", .int seen ts)] y) → News h₀ env.locals h ((cl, o) :: own) →
      wpAny (model PG w) A (execs body env) (InvPostN h₀ env.locals (KstS (fun _ : TS => [(cl, o)]) tsP (fun _ => True) (Str.ofString "place") stoP m₀ (fun pre c => (c.1, c.2.2.1) = tellTo (starsOf ws) (s0, i0) (ws.take pre.length) 0) (pre ++ [(k : Int)])) own [cl] { s with heap := h, toks := tk } Q) E { s with heap := h, toks := tk })
    (done : ∀ (told : Str) (tt : Tok) (seen : Int) (ts : Tok) (u : Str → Option Value) (h : Heap) (tk : Nat), (told, seen) = tellTo (starsOf ws) (s0, i0) ws 0 → Fr h₀ env.locals h (fun y => if y = Str.ofString "place" then u y else kstB (fun z => if stoP.contains z then u z else m₀ z) [(Str.ofString "told", .str told tt), (Str.ofString "seen", .int seen ts)] y) → News h₀ env.locals h [(cl, o)] → Q .next { s with heap := h, toks := tk }) :
    wpAny (model PG w) A (pyIter (.ref r)) (fun it s₂ => LoopAtV PG w A h₀ env (Str.ofString "place") body Q E it s₂) E s := by
  subst hb0
  have hn : Builtin.Range.rangeSize 0 (ws.length : Int) 1 = (ws.length : Int) := by
    unfold Builtin.Range.rangeSize
    simp only [show ((1 : Int) > 0) from by decide, if_true]
    split
    · omega
    · omega
  refine kst_range (x := Str.ofString "place") (fun _ : TS => [(cl, o)]) tsP (fun _ => True) stoP (fun pre c => (c.1, c.2.2.1) = tellTo (starsOf ws) (s0, i0) (ws.take pre.length) 0) (s0, t1, i0, t2) hh hr (small_one (by decide) (by decide) (by omega) (by omega)) hn Fh N trivial (fun p hp => ?_) rfl ?_ ?_
  · simp only [tsP, List.mem_cons, List.not_mem_nil, or_false] at hp
    rcases hp with rfl | rfl
    · exact v1
    · exact v2
  · intro c pre k t u h tk own hk hlt hoff _ hp F₁ N₁
    have e : k = ((pre.length : Nat) : Int) := by rw [hk]; omega
    subst e
    obtain ⟨wd, hwd⟩ : ∃ wd, ws[pre.length]? = some wd := ⟨ws[pre.length]'hlt, List.getElem?_eq_getElem _⟩
    have hl1 := to_len (starsOf ws) (ws.take pre.length) (s0, i0) 0
    rw [← hp] at hl1
    have hl2 : lens (ws.take pre.length) ≤ lens ws := by
      have := lens_app (ws.take pre.length) (ws.drop pre.length)
      rw [List.take_append_drop] at this
      omega
    have hl3 : (ws.take pre.length).length ≤ ws.length := by rw [List.length_take]; omega
    have hl4 := mem_lens (List.mem_of_getElem? hwd)
    exact turn c.1 c.2.1 c.2.2.1 c.2.2.2 pre.length t u h tk own pre wd hlt rfl hwd hp (by dsimp only at hl1; omega) (by omega) (fun q hq => hoff q hq cl (.head _)) F₁ N₁
  · intro c u h tk _ hp F₁ N₁
    have e : (rangeKs 0 ws.length).length = ws.length := rangeKs_length _ _
    rw [e, List.take_length] at hp
    exact done c.1 c.2.1 c.2.2.1 c.2.2.2 u h tk hp F₁ N₁
theorem test_plain {cenv : Env} {ca : Addr} {tp : Tok} {p1 p2 p3 : Pos} {m₃ : Str → Option Value} {x : Str} {t : Tok} {Q : Bool → Shared → Prop} (hn : s.heap.Ns cenv.locals m₃) (hm : m₃ (Str.ofString "sign") = some (.str x t)) (hc : s.heap.IsCell ca (some (.str plainT tp)))
    (hk : cenv.scope.kind = .function) (h1 : cenv.kindOf (Str.ofString "sign") = some .local) (h2 : cenv.kindOf (Str.ofString "plain") = some .cell ∨ cenv.kindOf (Str.ofString "plain") = some .free) (h3 : cenv.cells.lookup (Str.ofString "plain") = some ca) (h : Q (!Txt.contains plainT x) s) :
    wpAny (model PG w) A (isTrue (.Compare (.Name (Str.ofString "sign") p1) [.NotIn] [.Name (Str.ofString "plain") p2] p3) cenv (eval (.Compare (.Name (Str.ofString "sign") p1) [.NotIn] [.Name (Str.ofString "plain") p2] p3) cenv)) Q E s := by
  refine wpAny_isTrue_Compare1 ?_
  refine wpAny_Name (wpAny_loadName_local hk h1 hn hm ?_) (by decide)
  have fin : wpAny (model PG w) A (compareOp .NotIn (.str x t) (.str plainT tp)) (fun c s₃ => wpAny (model PG w) A (truthy c) Q E s₃) E s := P.notIn_str (wpAny_truthy_bool h)
  rcases h2 with h2 | h2
  · exact wpAny_Name (wpAny_loadName_cell hk h2 h3 hc fin) (by decide)
  · exact wpAny_Name (wpAny_loadName_free hk h2 h3 hc fin) (by decide)
theorem k_word {value slice : Expr} {l : Addr} {vs : List Value} {ws : List Str} {k : Nat} {u : Tok} {wd : Str} (Fh : Fr h₀ L s.heap m) (hl : h₀.IsList l vs.toArray) (hi : StrsAre vs ws) (hy : ws[k]? = some wd) (hb : k < 1000000) (h : ∀ t', Q (.str wd t') s)
    (hs : subscripted slice false (.ref l) (.int (k : Int) u) = operate [.ref l, .int (k : Int) u] (getItem (.ref l) (.int (k : Int) u)) := by with_unfolding_all rfl) (hg : ∀ r, letTemporaryGo value (.ref l) r = pure () := by intro _; with_unfolding_all rfl) :
    wpAny (model PG w) A (subscriptTail value slice (.ref l) (.int (k : Int) u)) Q E s := by
  obtain ⟨t, ht⟩ := hi.get k wd hy
  exact item_list (hl.at fun o e => Fh.keep l o e) (by omega) (by omega) (by simpa using ht) (h t) hs hg
theorem loop_signs {env : Env} {body : List Stmt} {Q : Flow → Shared → Prop} {news : List (Addr × Obj)} {xt : Str} {tx t1 t2 : Tok} {ws : List Str} {k : Nat} {m₀ : Str → Option Value} {i0 : Int} {s0 : Str}
    (hw : ws[k]? = some xt) (hh : A.handled = none) (Fh : Fr h₀ env.locals s.heap m₀) (N : News h₀ env.locals s.heap news)
    (v1 : m₀ (Str.ofString "told") = some (.str s0 t1)) (v2 : m₀ (Str.ofString "seen") = some (.int i0 t2)) (hs0 : s0.length < 100000) (hx : xt.length < 1001)
    (turn : ∀ (told : Str) (tt : Tok) (seen : Int) (ts : Tok) (n : Nat) (t : Tok) (u : Str → Option Value) (h : Heap) (tk : Nat) (own : List (Addr × Obj)) (pre : List Int), told.length < 1000000 → (told, seen) = (pre.map Int.toNat).foldl (tellSign (bareW xt) (starsOf ws)) (s0, i0) →
      Fr h₀ env.locals h (fun y => if y = Str.ofString "sign" then some (.str ⟨#[n]⟩ t) else kstB (fun z => if ([] : List Str).contains z then u z else m₀ z) [(Str.ofString "told", .str told tt), (Str.ofString "seen", .int seen ts)] y) → News h₀ env.locals h (news ++ own) →
      wpAny (model PG w) A (execs body env) (InvPostN h₀ env.locals (KstS (fun _ : TS => news) tsP (fun _ => True) (Str.ofString "sign") [] m₀ (fun pre c => (c.1, c.2.2.1) = (pre.map Int.toNat).foldl (tellSign (bareW xt) (starsOf ws)) (s0, i0)) (pre ++ [(n : Int)])) own (news.map (·.1)) { s with heap := h, toks := tk } Q) E { s with heap := h, toks := tk })
    (done : ∀ (told : Str) (tt : Tok) (seen : Int) (ts : Tok) (u : Str → Option Value) (h : Heap) (tk : Nat), (told, seen) = tellWord (starsOf ws) (s0, i0) xt → Fr h₀ env.locals h (fun y => if y = Str.ofString "sign" then u y else kstB (fun z => if ([] : List Str).contains z then u z else m₀ z) [(Str.ofString "told", .str told tt), (Str.ofString "seen", .int seen ts)] y) → News h₀ env.locals h news → Q .next { s with heap := h, toks := tk }) :
    wpAny (model PG w) A (pyIter (.str xt tx)) (fun it s₂ => LoopAtV PG w A h₀ env (Str.ofString "sign") body Q E it s₂) E s := by
  refine KStt.kst_text (x := Str.ofString "sign") (fun _ : TS => news) tsP (fun _ => True) [] (fun pre c => (c.1, c.2.2.1) = (pre.map Int.toNat).foldl (tellSign (bareW xt) (starsOf ws)) (s0, i0)) (s0, t1, i0, t2) hh Fh N trivial (fun p hp => ?_) rfl ?_ ?_
  · simp only [tsP, List.mem_cons, List.not_mem_nil, or_false] at hp
    rcases hp with rfl | rfl
    · exact v1
    · exact v2
  · intro c pre post n t u h tk own e hoff _ hp F₁ N₁
    have hl := fold_len (bareW xt) (starsOf ws) (pre.map Int.toNat) (s0, i0)
    rw [← hp] at hl
    have h2 : pre.length ≤ xt.length := by
      have := congrArg List.length e
      rw [KStt.codes_length, List.length_append] at this
      omega
    rw [List.length_map] at hl
    dsimp only at hl
    exact turn c.1 c.2.1 c.2.2.1 c.2.2.2 n t u h tk own pre (by omega) hp F₁ N₁
  · intro c u h tk _ hp F₁ N₁
    have e : (KStt.codes xt).map Int.toNat = xt.cps.toList := by
      unfold KStt.codes
      rw [List.map_map]
      have : (Int.toNat ∘ fun (c : Nat) => (c : Int)) = id := by funext c; rfl
      rw [this, List.map_id]
    rw [e] at hp
    exact done c.1 c.2.1 c.2.2.1 c.2.2.2 u h tk hp F₁ N₁
theorem sign_end {bare : Bool} {stars i0 seen seen' : Int} {s0 told told' : Str} {pre : List Int} {n : Nat} (hp : (told, seen) = (pre.map Int.toNat).foldl (tellSign bare stars) (s0, i0)) (e : tellSign bare stars (told, seen) n = (told', seen')) :
    (told', seen') = ((pre ++ [(n : Int)]).map Int.toNat).foldl (tellSign bare stars) (s0, i0) := by
  rw [List.map_append, List.foldl_append, ← hp]
  exact e.symm
theorem place_end {stars i0 seen seen' : Int} {s0 told told' : Str} {ws : List Str} {wd : Str} {k : Nat} {pre : List Int} {v : Int} (hk : k = pre.length) (hw : ws[k]? = some wd) (hp : (told, seen) = tellTo stars (s0, i0) (ws.take k) 0) (e : tellAt stars k (told, seen) wd = (told', seen')) :
    (told', seen') = tellTo stars (s0, i0) (ws.take (pre ++ [v]).length) 0 := by
  subst hk
  have hl : (ws.take pre.length).length = pre.length := by
    have := (List.getElem?_eq_some_iff.mp hw).1
    rw [List.length_take]; omega
  rw [List.length_append, List.length_singleton, List.take_add_one, hw, Option.toList_some, tellTo_snoc, ← hp, hl, Nat.zero_add, e]
theorem star_ch {n : Nat} (h : ((⟨#[n]⟩ : Str) == Str.ofString "*") = true) : n = 42 := of_decide_eq_true ((ch_eq (by decide +kernel : Str.ofString "*" = ⟨#[42]⟩)).symm.trans h)
theorem star_no {n : Nat} (h : ((⟨#[n]⟩ : Str) == Str.ofString "*") = false) : ¬ n = 42 := of_decide_eq_false ((ch_eq (by decide +kernel : Str.ofString "*" = ⟨#[42]⟩)).symm.trans h)
section
variable {b : Bool} {st seen : Int} {told : Str} {n : Nat}
theorem tsS {x y : Str} (h : ((⟨#[n]⟩ : Str) == Str.ofString "*") = true) (h1 : (1 < seen + 1 ∧ x = Str.ofString ")") ∨ (¬ 1 < seen + 1 ∧ x = Str.ofString "")) (h2 : (seen + 1 = st ∧ y = Str.ofString ".*") ∨ (seen + 1 ≠ st ∧ y = Str.ofString "(?>.*?")) :
    tellSign b st (told, seen) n = (told ++ x ++ y, seen + 1) := by
  unfold tellSign; rw [if_pos (star_ch h)]; dsimp only
  rcases h1 with ⟨q, rfl⟩ | ⟨q, rfl⟩
  · rw [if_pos q]
    rcases h2 with ⟨r, rfl⟩ | ⟨r, rfl⟩
    · rw [if_pos r]
    · rw [if_neg r]
  · rw [if_neg q]
    rcases h2 with ⟨r, rfl⟩ | ⟨r, rfl⟩
    · rw [if_pos r]
    · rw [if_neg r]
theorem tsE {v : Str} (h : ((⟨#[n]⟩ : Str) == Str.ofString "*") = false) (hv : (b = false ∧ (Builtin.Str.occurrences specT ⟨#[n]⟩ 0 specT.length 1).isEmpty = false ∧ v = told ++ Str.ofString "\\" ++ ⟨#[n]⟩) ∨ ((b = true ∨ (Builtin.Str.occurrences specT ⟨#[n]⟩ 0 specT.length 1).isEmpty = true) ∧ v = told ++ ⟨#[n]⟩)) :
    tellSign b st (told, seen) n = (v, seen) := by
  unfold tellSign; rw [if_neg (star_no h)]
  rcases hv with ⟨h1, h2, rfl⟩ | ⟨h2, rfl⟩
  · rw [if_pos ⟨h1, by unfold Txt.contains; rw [h2]; rfl⟩]
  · rw [if_neg (fun q => ?_)]
    obtain ⟨q1, q2⟩ := q
    rcases h2 with h2 | h2
    · rw [q1] at h2; cases h2
    · unfold Txt.contains at q2; rw [h2] at q2; cases q2
end
theorem k_bare {D b : Addr} {ys : Array Value} {n k : Nat} {bw : Bool} {news : List (Addr × Obj)} (N : News h₀ L s.heap news) (hl : (D, lstO ys n) ∈ news) (hb : (b, lstO #[] k) ∈ news) (he : ys.isEmpty = bw) (hu : A.units < cLine) (h : Q (.bool bw) s) :
    wpAny (model PG w) A (compareOp .Eq (.ref D) (.ref b)) Q E s := by
  subst he
  have l1 : s.heap.IsList D ys := ⟨_, (N _ hl).1, rfl, _, rfl⟩
  have l2 : s.heap.IsList b #[] := ⟨_, (N _ hb).1, rfl, _, rfl⟩
  by_cases e : ys.size = 0
  · refine SeqAt.eq_listAt (e := fun _ => true) l1 l2 e hu (fun j h1 => by omega) ?_
    rw [e]
    have : ys.isEmpty = true := by simp [Array.isEmpty, e]
    rw [this] at h
    exact h
  · refine SeqAt.eq_list_lengthsAt l1 l2 (by simpa using e) hu ?_
    have : ys.isEmpty = false := by simp [Array.isEmpty, e]
    rw [this] at h
    exact h
end
end Mine
-- part Ls
set_option maxHeartbeats 2000000
namespace Mine
open PySem PySem.W PySem.Calls PyProof.Rows Mpp
noncomputable def ltFn (w : World) : FnAt (Mine.Ho.frag w.params) 790 := by
  refine' mkFn ?z
  case z => k_is
noncomputable def ltPlace (w : World) : List Stmt := match (ltFn w).body with
  | [_, _, _, _, .For _ _ b _ _, _] => b
  | _ => []
noncomputable def ltSign (w : World) : List Stmt := match ltPlace w with
  | [_, _, .For _ _ b _ _] => b
  | _ => []
noncomputable abbrev ltEnv (w : World) (L : Addr) : Env := envOfC (ltFn w).qual (ltFn w).scope L 790 (ltFn w).cdv
section
variable {w : World} {A : Around} {s : Shared} {p : Program} {loose : List Str} {mg mb : Str → Option Value} {h₀ : Heap} {L : Addr} {m : Str → Option Value} {E : Value → Shared → Prop}

abbrev mS (n : Nat) (t : Tok) (told : Str) (tt : Tok) (seen : Int) (ts : Tok) (b : Bool) (st : Int) (tst : Tok) (m₀ : Str → Option Value) : Str → Option Value := fun y =>
  if y = Str.ofString "sign" then some (.str ⟨#[n]⟩ t) else if y = Str.ofString "told" then some (.str told tt) else if y = Str.ofString "seen" then some (.int seen ts) else if y = Str.ofString "bare" then some (.bool b) else if y = Str.ofString "stars" then some (.int st tst) else m₀ y
/-- one sign told -/
theorem sign_turn {b : Bool} {st seen : Int} {told : Str} {n : Nat} {t tt ts tst : Tok} {m₀ : Str → Option Value} {news : List (Addr × Obj)} {Q : Flow → Shared → Prop}
    (F : Fr h₀ L s.heap (mS n t told tt seen ts b st tst m₀)) (N : News h₀ L s.heap news) (X : (Mine.Ho.frag w.params).In h₀) (T : TopRead p loose mg mb h₀) (hl : told.length < 1000000)
    (h : ∀ m' told' tt' seen' ts' h' tk, tellSign b st (told, seen) n = (told', seen') → m' (Str.ofString "told") = some (.str told' tt') → m' (Str.ofString "seen") = some (.int seen' ts') →
      (∀ z, z ≠ Str.ofString "sign" → z ≠ Str.ofString "told" → z ≠ Str.ofString "seen" → m' z = mS n t told tt seen ts b st tst m₀ z) → Fr h₀ L h' m' → News h₀ L h' news → Q .next { s with heap := h', toks := tk }) :
    wpAny (model PG w) A (execs (ltSign w) (ltEnv w L)) Q E s := by
  dsimp only [ltSign, ltPlace, ltEnv, ltFn, mkFn]
  unfold mS at F
  k_steps
  all_goals (
    rename Fr h₀ L _ _ => F1
    rename News h₀ L _ _ => N1
    first
      | (refine h _ _ _ _ _ _ _ (tsS (by assumption) ?_ ?_) rfl rfl (fun z h1 h2 h3 => (if_neg h2).trans (if_neg h3)) F1 N1 <;> first | exact .inl ⟨by assumption, rfl⟩ | exact .inr ⟨by assumption, rfl⟩)
      | (refine h _ _ _ _ _ _ _ (tsE (by assumption) ?_) rfl rfl (fun z h1 h2 h3 => if_neg h2) F1 N1; first | exact .inl ⟨by assumption, by assumption, rfl⟩ | exact .inr ⟨.inl (by assumption), rfl⟩ | exact .inr ⟨.inr (by assumption), rfl⟩))
end
end Mine
-- part Lp
set_option maxHeartbeats 2000000
namespace Mine
open PySem PySem.W PySem.Calls PyProof.Rows Mpp
section
variable {w : World} {A : Around} {s : Shared} {p : Program} {loose : List Str} {mg mb : Str → Option Value} {h₀ : Heap} {L : Addr} {m : Str → Option Value} {E : Value → Shared → Prop}
theorem loop_signs2 {env : Env} {body : List Stmt} {Q : Flow → Shared → Prop} {news : List (Addr × Obj)} {xt : Str} {tx t1 t2 tst : Tok} {ws : List Str} {k : Nat} {m₀ : Str → Option Value} {i0 : Int} {s0 : Str}
    (he : env = ltEnv w L) (hb : body = ltSign w) (hw : ws[k]? = some xt) (hh : A.handled = none) (Fh : Fr h₀ L s.heap m₀) (N : News h₀ L s.heap news) (X : (Mine.Ho.frag w.params).In h₀) (T : TopRead p loose mg mb h₀)
    (v1 : m₀ (Str.ofString "told") = some (.str s0 t1)) (v2 : m₀ (Str.ofString "seen") = some (.int i0 t2)) (v3 : m₀ (Str.ofString "bare") = some (.bool (bareW xt))) (v4 : m₀ (Str.ofString "stars") = some (.int (starsOf ws) tst)) (hs0 : s0.length < 100000) (hx : xt.length < 1001)
    (done : ∀ m' told tt seen ts h tk, (told, seen) = tellWord (starsOf ws) (s0, i0) xt → m' (Str.ofString "told") = some (.str told tt) → m' (Str.ofString "seen") = some (.int seen ts) →
      (∀ z, z ≠ Str.ofString "sign" → z ≠ Str.ofString "told" → z ≠ Str.ofString "seen" → m' z = m₀ z) → Fr h₀ L h m' → News h₀ L h news → Q .next { s with heap := h, toks := tk }) :
    wpAny (model PG w) A (pyIter (.str xt tx)) (fun it s₂ => LoopAtV PG w A h₀ env (Str.ofString "sign") body Q E it s₂) E s := by
  subst he hb
  refine loop_signs hw hh Fh N v1 v2 hs0 hx ?_ ?_
  · intro told tt seen ts n t u h tk own pre hl hp F₁ N₁
    refine sign_turn (n := n) (t := t) (tt := tt) (ts := ts) (seen := seen) (m₀ := m₀) (b := bareW xt) (st := starsOf ws) (tst := tst) (frE F₁ fun y => ?_) N₁ X T hl fun m' told' tt' seen' ts' h' tk' e e1 e2 e3 F' N' => ?_
    · unfold mS
      dsimp only [kstB]
      by_cases h1 : y = Str.ofString "sign"
      · rw [if_pos h1, if_pos h1]
      by_cases h2 : y = Str.ofString "told"
      · rw [if_neg h1, if_neg h1, if_pos h2, if_pos h2]
      by_cases h3 : y = Str.ofString "seen"
      · rw [if_neg h1, if_neg h1, if_neg h2, if_neg h2, if_pos h3, if_pos h3]
      rw [if_neg h1, if_neg h1, if_neg h2, if_neg h2, if_neg h3, if_neg h3]
      by_cases h4 : y = Str.ofString "bare"
      · rw [if_pos h4, h4]; exact v3
      by_cases h5 : y = Str.ofString "stars"
      · rw [if_neg h4, if_pos h5, h5]; exact v4
      rw [if_neg h4, if_neg h5]
      rfl
    · refine kst_end (told', tt', seen', ts') F' N' (fun p hp => List.mem_append_left _ hp) (fun p hp => List.mem_append_right _ hp) rfl trivial (fun p hp => ?_) (fun z hz hps _ => ?_) (sign_end hp e)
      · simp only [tsP, List.mem_cons, List.not_mem_nil, or_false] at hp
        rcases hp with rfl | rfl
        · exact e1
        · exact e2
      · have h1 : z ≠ Str.ofString "told" := hps _ (.head _)
        have h2 : z ≠ Str.ofString "seen" := hps _ (.tail _ (.head _))
        rw [e3 z hz h1 h2]
        unfold mS
        rw [if_neg hz, if_neg h1, if_neg h2]
        by_cases h4 : z = Str.ofString "bare"
        · rw [if_pos h4, h4]; exact v3.symm
        by_cases h5 : z = Str.ofString "stars"
        · rw [if_neg h4, if_pos h5, h5]; exact v4.symm
        rw [if_neg h4, if_neg h5]
  · intro told tt seen ts u h tk e F₁ N₁
    refine done _ told tt seen ts h tk e ?_ ?_ (fun z h1 h2 h3 => ?_) F₁ N₁
    · rfl
    · rfl
    · dsimp only [kstB]
      rw [if_neg h1, if_neg h2, if_neg h3]
      rfl
abbrev mP (k : Nat) (t : Tok) (told : Str) (tt : Tok) (seen : Int) (ts : Tok) (st : Int) (tst : Tok) (l : Addr) (m₀ : Str → Option Value) : Str → Option Value := fun y =>
  if y = Str.ofString "place" then some (.int (k : Int) t) else if y = Str.ofString "told" then some (.str told tt) else if y = Str.ofString "seen" then some (.int seen ts) else if y = Str.ofString "stars" then some (.int st tst) else if y = Str.ofString "words" then some (.ref l) else m₀ y
theorem sp_len : (Str.ofString " ").length = 1 := by decide
/-- one word told -/
theorem place_turn {seen : Int} {told wd : Str} {k : Nat} {t tt ts tst tp : Tok} {l : Addr} {vs : List Value} {ws : List Str} {m₀ : Str → Option Value} {o : Obj} {own : List (Addr × Obj)} {Q : Flow → Shared → Prop}
    (F : Fr h₀ L s.heap (mP k t told tt seen ts (starsOf ws) tst l m₀)) (N : News h₀ L s.heap ((L + 1, o) :: own)) (hc : o.data = .cell (some (.str plainT tp))) (X : (Mine.Ho.frag w.params).In h₀) (T : TopRead p loose mg mb h₀)
    (hli : h₀.IsList l vs.toArray) (hi : StrsAre vs ws) (hw : ws[k]? = some wd) (hk : k < 1000000) (hl : told.length < 10000) (hwl : wd.length < 1001) (hh : A.handled = none) (hu : A.units < cLine)
    (h : ∀ m' told' tt' seen' ts' h' tk, tellAt (starsOf ws) k (told, seen) wd = (told', seen') → m' (Str.ofString "told") = some (.str told' tt') → m' (Str.ofString "seen") = some (.int seen' ts') →
      (∀ z, z ≠ Str.ofString "place" → z ≠ Str.ofString "told" → z ≠ Str.ofString "seen" → z ≠ Str.ofString "bare" → z ≠ Str.ofString "sign" → m' z = mP k t told tt seen ts (starsOf ws) tst l m₀ z) → Fr h₀ L h' m' → News h₀ L h' ((L + 1, o) :: own) → Q .next { s with heap := h', toks := tk }) :
    wpAny (model PG w) A (execs (ltPlace w) (ltEnv w L)) Q (fun _ _ => False) s := by
  k_with_none
  k_with "eval ListComp" => ((with_reducible show wpAny _ _ (eval (Expr.ListComp _ [Comprehension.mk _ _ [_] _] _ _) _) _ _ _); refine' ListComp_bare ?k1 ?k2 ?k3 ?k4 ?k5 ?_; (case k1 => exact rfl); (case k2 => decide); (case k3 => exact rfl); (case k4 => decide); (case k5 => exact rfl))
  k_with "pyIter str" => (refine' pyIter_bare ?k1 ?k2 ?k3 ?k4 ?k5 ?k6 ?k7 ?_; (case k1 => (show Around.handled _ = _; assumption)); (case k2 => k_asm); (case k3 => k_asm); (case k4 => assumption); (case k5 => assumption); (case k6 => (intro C' x' t' s3' m3' E3' Q3' hn3' hm3' hc3' hq3'; exact test_plain hn3' hm3' hc3' rfl rfl (.inl rfl) rfl hq3')); (case k7 => (intro C' x' t' s3' m3' E3' Q3' hn3' hm3' hq3'; exact wpAny_Name (wpAny_loadName_local rfl rfl hn3' hm3' hq3') (by decide))); intro D' ys' n' h' tk' hb' F' N'; (try k_sweep))
  k_with "pyIter str" => ((with_reducible show wpAny _ _ (pyIter _) (fun it s₂ => LoopAtV _ _ _ _ _ _ _ _ _ it s₂) _ _); refine' loop_signs2 ?ka ?kb ?k0 ?k1 ?k2 ?k3 ?kx ?kt ?k4 ?k5 ?k8 ?k9 ?k6 ?k7 ?_; (case ka => exact rfl); (case kb => exact rfl); (case k0 => assumption); (case k1 => (show Around.handled _ = _; assumption)); (case k2 => k_asm); (case k3 => k_asm); (case kx => k_asm); (case kt => k_asm); (case k4 => exact rfl); (case k5 => exact rfl); (case k8 => exact rfl); (case k9 => exact rfl); (case k6 => (try simp only [Str.length_append]); (try simp only [sp_len]); omega); (case k7 => assumption))
  k_with "exec For Name Subscript cons nil" => ((rename Fr _ _ _ _ => lF'); (with_unfolding_all refine' For_invVF lF' ?k1 ?k2 ?_; (case k1 => exact rfl); (case k2 => exact rfl); k_whole))
  k_with "compareOp Eq ref ref" => ((rename News _ _ _ _ => lN'); refine' k_bare lN' ?k2 ?k3 ?k4 ?k5 ?_; (case k2 => first | exact .head _ | exact .tail _ (.head _) | k_mem); (case k3 => first | exact .head _ | k_mem); (case k4 => assumption); (case k5 => assumption))
  k_with "subscriptTail" => (refine' k_word ?k1 ?k2 ?k3 ?k4 ?k5 ?_; (case k1 => k_asm); (case k2 => assumption); (case k3 => assumption); (case k4 => assumption); (case k5 => omega); intro t')
  k_with "subscriptTail Name Name ref int" => (refine' k_word ?k1 ?k2 ?k3 ?k4 ?k5 ?_; (case k1 => k_asm); (case k2 => assumption); (case k3 => assumption); (case k4 => assumption); (case k5 => omega); intro t')
  dsimp only [ltPlace, ltEnv, ltFn, mkFn]
  unfold mP at F
  k_steps
  all_goals (
    rename (_ = tellWord _ _ _) => e1
    rename ((_ : Str → Option Value) (Str.ofString "told") = some _) => e2
    rename ((_ : Str → Option Value) (Str.ofString "seen") = some _) => e3
    rename (∀ z, z ≠ Str.ofString "sign" → z ≠ Str.ofString "told" → z ≠ Str.ofString "seen" → _ = _) => e4
    rename Fr h₀ L _ _ => F1
    rename News h₀ L _ _ => N1)
  · rename (0 < (k : Int)) => hk0
    refine h _ _ _ _ _ _ _ ?_ e2 e3 (fun z h1 h2 h3 h4 h5 => ?_) F1 (newsTail (newsTail N1))
    · rw [tellAt, if_pos (by omega)]; exact e1.symm
    · rw [e4 z h5 h2 h3, if_neg h4, if_neg h2]
  · rename (¬ 0 < (k : Int)) => hk0
    refine h _ _ _ _ _ _ _ ?_ e2 e3 (fun z h1 h2 h3 h4 h5 => ?_) F1 (newsTail (newsTail N1))
    · rw [tellAt, if_neg (by omega)]; exact e1.symm
    · rw [e4 z h5 h2 h3, if_neg h4]
end
end Mine
-- part Lt
set_option maxHeartbeats 2000000
namespace Mine
open PySem PySem.W PySem.Calls PyProof.Rows Mpp
section
variable {w : World} {A : Around} {s : Shared} {p : Program} {loose : List Str} {mg mb : Str → Option Value} {h₀ : Heap} {L : Addr} {m : Str → Option Value} {Q E : Value → Shared → Prop}
theorem loop_places2 {env : Env} {body : List Stmt} {Q : Flow → Shared → Prop} {r l cl : Addr} {o : Obj} {vs : List Value} {b₀ : Int} {t₀ u₀ v₀ t1 t2 tst tp : Tok} {ws : List Str} {m₀ : Str → Option Value} {i0 : Int} {s0 : Str}
    (he : env = ltEnv w L) (hbo : body = ltPlace w) (hh : A.handled = none) (hr : IsRange s.heap r 0 b₀ 1 t₀ u₀ v₀) (hb0 : b₀ = (ws.length : Int)) (hb : lens ws + ws.length ≤ 1000) (Fh : Fr h₀ L s.heap m₀) (N : News h₀ L s.heap [(cl, o)])
    (hc : o.data = .cell (some (.str plainT tp))) (hli : h₀.IsList l vs.toArray) (hi : StrsAre vs ws) (hcl : cl = L + 1) (hu : A.units < cLine) (X : (Mine.Ho.frag w.params).In h₀) (T : TopRead p loose mg mb h₀)
    (v1 : m₀ (Str.ofString "told") = some (.str s0 t1)) (v2 : m₀ (Str.ofString "seen") = some (.int i0 t2)) (v3 : m₀ (Str.ofString "stars") = some (.int (starsOf ws) tst)) (v4 : m₀ (Str.ofString "words") = some (.ref l)) (hs0 : s0.length ≤ 2)
    (done : ∀ (told : Str) (tt : Tok) (seen : Int) (ts : Tok) (u : Str → Option Value) (h : Heap) (tk : Nat), (told, seen) = tellTo (starsOf ws) (s0, i0) ws 0 → Fr h₀ L h (fun y => if y = Str.ofString "place" then u y else kstB (fun z => if stoP.contains z then u z else m₀ z) [(Str.ofString "told", .str told tt), (Str.ofString "seen", .int seen ts)] y) → News h₀ L h [(cl, o)] → Q .next { s with heap := h, toks := tk }) :
    wpAny (model PG w) A (pyIter (.ref r)) (fun it s₂ => LoopAtV PG w A h₀ env (Str.ofString "place") body Q (fun _ _ => False) it s₂) (fun _ _ => False) s := by
  subst he hbo hcl
  refine loop_places hh hr hb0 hb Fh N v1 v2 hs0 ?_ done
  intro told tt seen ts k t u h tk own pre wd hk hpre hw hp hl hwl hoff F₁ N₁
  refine place_turn (k := k) (t := t) (told := told) (tt := tt) (seen := seen) (ts := ts) (tst := tst) (l := l) (m₀ := fun z => if stoP.contains z then u z else m₀ z) (frE F₁ fun y => ?_) N₁ hc X T hli hi hw (by omega) hl hwl hh hu fun m' told' tt' seen' ts' h' tk' e e1 e2 e3 F' N' => ?_
  · unfold mP
    dsimp only [kstB]
    by_cases h1 : y = Str.ofString "place"
    · rw [if_pos h1, if_pos h1]
    by_cases h2 : y = Str.ofString "told"
    · rw [if_neg h1, if_neg h1, if_pos h2, if_pos h2]
    by_cases h3 : y = Str.ofString "seen"
    · rw [if_neg h1, if_neg h1, if_neg h2, if_neg h2, if_pos h3, if_pos h3]
    rw [if_neg h1, if_neg h1, if_neg h2, if_neg h2, if_neg h3, if_neg h3]
    by_cases h4 : y = Str.ofString "stars"
    · rw [if_pos h4, h4]; exact v3
    by_cases h5 : y = Str.ofString "words"
    · rw [if_neg h4, if_pos h5, h5]; exact v4
    rw [if_neg h4, if_neg h5]
  · refine kst_end (told', tt', seen', ts') F' N' (fun p hp => by rw [List.mem_singleton.mp hp]; exact .head _) (fun p hp => .tail _ hp) rfl trivial (fun p hp => ?_) (fun z hz hps hst => ?_) (place_end hpre hw hp e)
    · simp only [tsP, List.mem_cons, List.not_mem_nil, or_false] at hp
      rcases hp with rfl | rfl
      · exact e1
      · exact e2
    · have h1 : z ≠ Str.ofString "told" := hps _ (.head _)
      have h2 : z ≠ Str.ofString "seen" := hps _ (.tail _ (.head _))
      have h3 : z ≠ Str.ofString "bare" := fun q => by rw [q] at hst; exact absurd hst (by decide)
      have h4 : z ≠ Str.ofString "sign" := fun q => by rw [q] at hst; exact absurd hst (by decide)
      rw [e3 z hz h1 h2 h3 h4]
      unfold mP
      rw [if_neg hz, if_neg h1, if_neg h2]
      by_cases h5 : z = Str.ofString "stars"
      · rw [if_pos h5, h5]; exact v3.symm
      by_cases h6 : z = Str.ofString "words"
      · rw [if_neg h5, if_pos h6, h6]; exact v4.symm
      rw [if_neg h5, if_neg h6]
      exact if_neg (by rw [hst]; decide)
theorem told_c {l : Addr} {vs : List Value} {ws : List Str} (X : (Mine.Ho.frag w.params).In s.heap) (T : TopRead p loose mg mb s.heap) (hl : s.heap.IsList l vs.toArray) (hi : StrsAre vs ws) (hn : lens ws + ws.length ≤ 1000) (hh : A.handled = none) (hd : A.depth < 850) (hu : A.units < 9000)
    (h : ∀ h' tk t', Keeps s.heap h' → Q (.str (toldS ws) t') { s with heap := h', toks := tk }) :
    wpAny (model PG w) A (call (.ref 790) [.ref l]) Q E s := by
  k_with_none
  k_with "enter" => (k_dflt (case k1 => k_asm); (case k2 => exact TopRead.nolimit (by k_asm)); (case k3 => k_is); (case k4 => k_is); (case k6 => first | exact BindsTo.of_eq rfl | exact binds_K (by assumption) rfl (by k_is) rfl rfl rfl); (case k7 => exact rfl); (case k8 => decide +kernel); (case c1 => exact rfl); (case c2 => exact rfl); (case c3 => exact rfl))
  k_with "pyIter ref" => ((with_reducible show wpAny _ _ (pyIter _) (CompPost _ _ _ _ _ _ _ _ _) _ _); refine' comp_counts ?k1 ?k2 ?k3 ?k4 ?k5 ?k6 ?k7 ?_; (case k1 => (show Around.handled _ = _; assumption)); (case k2 => k_asm); (case k3 => k_asm); (case k4 => assumption); (case k5 => assumption); (case k6 => omega); (case k7 => (intro C' x' t' s2' m2' E2' Q2' hn2' hm2' hq2'; exact elt_count hn2' hm2' rfl rfl rfl rfl rfl hq2')); intro D' ys' h' tk' hl' hi' F' N'; (try k_sweep))
  k_with "call builtin:sum" => (refine' sumK ?k0 ?k1 ?k2 ?k3 ?k4 ?_; (case k0 => (show Around.handled _ = _; assumption)); (case k1 => k_asm); (case k2 => k_asm); (case k3 => assumption); (case k4 => assumption); intro h' tk' t' F' N'; (try k_sweep))
  k_with "pyIter ref" => ((with_reducible show wpAny _ _ (pyIter _) (fun it s₂ => LoopAtV _ _ _ _ _ _ _ _ _ it s₂) _ _); refine' loop_places2 ?ka ?kb ?k1 ?k2 ?k3 ?k4 ?k5 ?k6 ?kc ?kd ?ke ?kf ?kg ?kx ?kt ?k7 ?k8 ?kv ?kw ?k9 ?_; (case ka => exact rfl); (case kb => exact rfl); (case k1 => (show Around.handled _ = _; assumption)); (case k2 => assumption); (case k3 => exact rfl); (case k4 => assumption); (case k5 => k_asm); (case k6 => k_asm); (case kc => assumption); (case kd => assumption); (case ke => assumption); (case kf => exact rfl); (case kg => (show _ + 3 < cLine; unfold cLine; omega)); (case kx => k_asm); (case kt => k_asm); (case k7 => exact rfl); (case k8 => exact rfl); (case kv => exact rfl); (case kw => exact rfl); (case k9 => decide))
  refine' call_fnC (binds := [(Str.ofString "words", .ref l)]) ?k1 ?k2 ?k3 ?k4 ?k5 ?k6 ?k7 ?k8 ?_ ?c1 ?c2 ?c3
  walk_at "enter"
  case k5 => exact Nat.lt_trans hd (by decide)
  intro h₁ tk cells F N Y
  k_fold
  k_cells Y
  k_steps
  all_goals (
    rename ((_, _) = tellTo _ _ _ _) => e1
    rename Fr s.heap _ _ _ => F1
    have e2 := congrArg Prod.fst e1
    dsimp only at e2)
  · rename (0 < List.sum _) => h0
    have e3 : toldS ws = (tellTo (starsOf ws) (Str.ofString "", 0) ws 0).1 := by
      unfold toldS; rw [if_pos (show starsOf ws > 0 from h0)]
    rw [← e3] at e2
    subst e2
    exact h _ _ _ F1.keep
  · rename (¬ 0 < List.sum _) => h0
    have e3 : toldS ws = (tellTo (starsOf ws) (Str.ofString ".*", 0) ws 0).1 := by
      unfold toldS; rw [if_neg (show ¬ starsOf ws > 0 from h0)]
    rw [← e3] at e2
    subst e2
    exact h _ _ _ F1.keep
end
end Mine
-- part Pl
set_option maxHeartbeats 1000000
namespace Mine
open PySem PySem.W PySem.Calls PyProof.Rows
theorem contains_one (x : Str) (c : Nat) : Txt.contains x ⟨#[c]⟩ = decide (c ∈ x.cps.toList) := StrLaws.found_one x c
def markL (stars seen : Int) : List Nat := (if seen + 1 > 1 then [41] else []) ++ (if seen + 1 = stars then [46, 42] else [40, 63, 62, 46, 42, 63])
def trGo (stars : Int) : Int → List Nat → List Nat
  | _, [] => []
  | seen, c :: cs => if c = 42 then markL stars seen ++ trGo stars (seen + 1) cs else esc1 c ++ trGo stars seen cs
def tlGo (bare : Bool) (stars : Int) : Int → List Nat → List Nat
  | _, [] => []
  | seen, c :: cs => if c = 42 then markL stars seen ++ tlGo bare stars (seen + 1) cs else (if bare then [c] else esc1 c) ++ tlGo bare stars seen cs
theorem trGo_app (stars : Int) : ∀ (a b : List Nat) (seen : Int), trGo stars seen (a ++ b) = trGo stars seen a ++ trGo stars (seen + cnt 42 a) b
  | [], b, seen => by rw [cnt_nil, Int.add_zero]; rfl
  | c :: a, b, seen => by
    rw [List.cons_append, trGo, trGo, cnt_cons]
    by_cases h : c = 42
    · rw [if_pos h, if_pos h, if_pos h, trGo_app stars a b, List.append_assoc, Int.add_assoc]
    · rw [if_neg h, if_neg h, if_neg h, trGo_app stars a b, List.append_assoc, Int.zero_add]
theorem trGo_free (stars : Int) : ∀ (a : List Nat) (seen : Int), 42 ∉ a → trGo stars seen a = escL a
  | [], seen, _ => rfl
  | c :: a, seen, h => by
    rw [trGo, if_neg (fun e => h (by rw [e]; exact .head _)), trGo_free stars a seen (fun q => h (.tail _ q))]
    rfl
-- told, sign by sign
theorem spec_one {c : Nat} (h : c ≠ 42) : Txt.contains specT ⟨#[c]⟩ = specCh c := by
  rw [contains_one]
  by_cases hc : c < 128
  · have key : ∀ n : Fin 128, n.1 ≠ 42 → decide (n.1 ∈ specT.cps.toList) = specCh n.1 := by decide +kernel
    exact key ⟨c, hc⟩ h
  · have e1 : specT.cps.toList.all (· < 128) = true := by decide +kernel
    have e2 : specL.all (· < 128) = true := by decide +kernel
    have h1 : c ∉ specT.cps.toList := fun q => hc (of_decide_eq_true (List.all_eq_true.mp e1 c q))
    rw [decide_eq_false h1, specCh]
    cases q : specL.contains c with
    | false => rfl
    | true => exact absurd (of_decide_eq_true (List.all_eq_true.mp e2 c (List.contains_iff_mem.mp q))) hc
theorem str_snoc (x : Str) (l m : List Nat) : x ++ (⟨l.toArray⟩ : Str) ++ (⟨m.toArray⟩ : Str) = x ++ (⟨(l ++ m).toArray⟩ : Str) := by
  apply Str.ext'
  rw [Str.cps_append, Str.cps_append, Str.cps_append]
  apply Array.ext'
  simp
theorem mark_str (stars seen : Int) (x : Str) : x ++ (if seen + 1 > 1 then Str.ofString ")" else Str.ofString "") ++ (if seen + 1 = stars then Str.ofString ".*" else Str.ofString "(?>.*?") = x ++ ⟨(markL stars seen).toArray⟩ := by
  unfold markL
  have e1 : Str.ofString ")" = ⟨[41].toArray⟩ := by decide +kernel
  have e2 : Str.ofString "" = ⟨([] : List Nat).toArray⟩ := by decide +kernel
  have e3 : Str.ofString ".*" = ⟨[46, 42].toArray⟩ := by decide +kernel
  have e4 : Str.ofString "(?>.*?" = ⟨[40, 63, 62, 46, 42, 63].toArray⟩ := by decide +kernel
  rw [e1, e2, e3, e4]
  split <;> split <;> exact str_snoc _ _ _
theorem sign_go (bare : Bool) (stars : Int) (x : Str) (seen : Int) (c : Nat) : tellSign bare stars (x, seen) c = if c = 42 then (x ++ ⟨(markL stars seen).toArray⟩, seen + 1) else (x ++ ⟨(if bare then [c] else esc1 c).toArray⟩, seen) := by
  unfold tellSign
  by_cases h : c = 42
  · rw [if_pos h, if_pos h, ← mark_str]
  · rw [if_neg h, if_neg h, spec_one h]
    unfold esc1
    cases bare with
    | true => rfl
    | false =>
      cases e : specCh c with
      | true =>
        rw [if_pos ⟨rfl, rfl⟩]
        have e1 : Str.ofString "\\" = ⟨[92].toArray⟩ := by decide +kernel
        rw [e1]
        exact congrArg (·, seen) (str_snoc x [92] [c])
      | false => rfl
theorem fold_go (bare : Bool) (stars : Int) : ∀ (l : List Nat) (x : Str) (seen : Int), l.foldl (tellSign bare stars) (x, seen) = (x ++ ⟨(tlGo bare stars seen l).toArray⟩, seen + cnt 42 l)
  | [], x, seen => by
    rw [cnt_nil, Int.add_zero]
    refine congrArg (·, seen) (Str.ext' ?_)
    rw [Str.cps_append]; simp [tlGo]
  | c :: l, x, seen => by
    rw [List.foldl_cons, sign_go, cnt_cons, tlGo]
    by_cases h : c = 42
    · rw [if_pos h, if_pos h, if_pos h, fold_go bare stars l, str_snoc, Int.add_assoc]
    · rw [if_neg h, if_neg h, if_neg h, fold_go bare stars l, str_snoc, Int.zero_add]
theorem safe_plain (c : Nat) : Txt.contains plainT ⟨#[c]⟩ = safeCh c := by
  rw [contains_one]
  by_cases h : c < 128
  · have key : ∀ n : Fin 128, decide (n.1 ∈ plainT.cps.toList) = safeCh n.1 := by decide +kernel
    exact key ⟨c, h⟩
  · have e : plainT.cps.toList.all (· < 128) = true := by decide +kernel
    have h1 : c ∉ plainT.cps.toList := fun q => h (of_decide_eq_true (List.all_eq_true.mp e c q))
    rw [decide_eq_false h1]
    symm
    rw [safeCh, Bool.or_eq_false_iff]
    constructor
    · unfold Sre.isWord Sre.isDigit
      simp only [Bool.or_eq_false_iff, Bool.and_eq_false_iff, decide_eq_false_iff_not, beq_eq_false_iff_ne]
      omega
    · rw [Bool.eq_false_iff]
      intro q
      have q := List.contains_iff_mem.mp q
      simp only [List.mem_cons, List.not_mem_nil, or_false] at q
      omega
theorem bare_safe (x : Str) : bareW x = x.cps.toList.all safeCh := by
  unfold bareW signs
  rw [Bool.eq_iff_iff, List.isEmpty_iff, List.filter_eq_nil_iff, List.all_eq_true]
  constructor
  · intro h c hc
    have := h ⟨#[c]⟩ (List.mem_map.mpr ⟨c, hc, rfl⟩)
    rw [safe_plain] at this
    simpa using this
  · intro h g hg
    obtain ⟨c, hc, rfl⟩ := List.mem_map.mp hg
    rw [safe_plain, h c hc]
    decide
theorem word_go (stars : Int) (x : Str) (seen : Int) (wd : Str) : tellWord stars (x, seen) wd = (x ++ ⟨(tlGo (wd.cps.toList.all safeCh) stars seen wd.cps.toList).toArray⟩, seen + cnt 42 wd.cps.toList) := by
  unfold tellWord
  rw [fold_go, bare_safe]
def lineTold (stars : Int) : Int → List (List Nat) → List Nat
  | _, [] => []
  | seen, l :: r => 32 :: (tlGo (l.all safeCh) stars seen l ++ lineTold stars (seen + cnt 42 l) r)
theorem to_go (stars : Int) : ∀ (ws : List Str) (x : Str) (seen : Int) (k : Nat), 0 < k → (tellTo stars (x, seen) ws k).1.cps.toList = x.cps.toList ++ lineTold stars seen (ws.map (·.cps.toList))
  | [], x, seen, k, _ => by simp [tellTo, lineTold]
  | wd :: r, x, seen, k, h => by
    rw [tellTo, tellAt, if_pos h]
    dsimp only
    rw [word_go, to_go stars r _ _ _ (Nat.succ_pos k)]
    rw [Str.cps_append, Str.cps_append, List.map_cons, lineTold]
    have e : (Str.ofString " ").cps = #[32] := by decide +kernel
    rw [e]
    simp
-- the reading
theorem esc_safe {c : Nat} (h : safeCh c = true) : plainCh c := by
  refine ⟨fun q => ?_, fun q => ?_, fun q => ?_⟩
  · have : ∀ n ∈ [32, 9, 13, 10], safeCh n = false := by decide +kernel
    rw [this c q] at h; cases h
  · have : ∀ n ∈ [39, 34], safeCh n = false := by decide +kernel
    rw [this c q] at h; cases h
  · rw [q] at h; exact absurd h (by decide +kernel)
theorem read_safe (stars : Int) {rest out : List Nat} (hr : Lx .a rest out) : ∀ (l : List Nat) (seen : Int), l.all safeCh = true → Lx .a (trGo stars seen l ++ rest) (tlGo true stars seen l ++ out)
  | [], seen, _ => hr
  | c :: l, seen, h => by
    rw [List.all_cons, Bool.and_eq_true] at h
    have hc : c ≠ 42 := fun e => by rw [e] at h; exact absurd h.1 (by decide +kernel)
    have ih := read_safe stars hr l seen h.2
    rw [trGo, tlGo, if_neg hc, if_neg hc, if_pos rfl]
    unfold esc1
    split
    · exact .bs (.esc ih)
    · exact .plain (esc_safe h.1) ih
theorem sq_all {rest out : List Nat} (hr : Lx .sq rest out) : ∀ (l : List Nat), 39 ∉ l → Lx .sq (l ++ rest) (l ++ out)
  | [], _ => hr
  | c :: l, h => .sqo (fun e => h (by rw [e]; exact .head _)) (sq_all hr l fun q => h (.tail _ q))
theorem mark_free (stars seen : Int) : 39 ∉ markL stars seen := by
  unfold markL
  split <;> split <;> decide
theorem esc39 {c : Nat} (h : c ≠ 39) : 39 ∉ esc1 c := by
  unfold esc1
  split <;> simp [Ne.symm h]
theorem read_sq (stars : Int) {rest out : List Nat} : ∀ (l : List Nat) (seen : Int), Lx .sq rest out → Lx .sq (trGo stars seen (l.flatMap quoQ) ++ rest) (tlGo false stars seen l ++ out)
  | [], seen, hr => hr
  | c :: l, seen, hr => by
    have h1 := fun s => read_sq stars l s hr
    rw [List.flatMap_cons, tlGo, quoQ]
    by_cases h : c = 39
    · subst h
      rw [if_pos rfl, if_neg (by decide)]
      have e : trGo stars seen ([39, 34, 39, 34, 39] ++ l.flatMap quoQ) = 39 :: 34 :: 39 :: 34 :: 39 :: trGo stars seen (l.flatMap quoQ) := by
        rw [trGo_app, trGo_free _ _ _ (by decide), cnt_none _ _ (by decide), Int.add_zero]
        rfl
      rw [e]
      exact .sqc (.dquote (.dqo (.dqc (.squote (h1 seen)))))
    · rw [if_neg h]
      show Lx .sq (trGo stars seen (c :: l.flatMap quoQ) ++ rest) _
      rw [trGo]
      by_cases h2 : c = 42
      · rw [if_pos h2, if_pos h2, List.append_assoc, List.append_assoc]
        exact sq_all (h1 _) _ (mark_free _ _)
      · rw [if_neg h2, if_neg h2, List.append_assoc, List.append_assoc]
        exact sq_all (h1 _) _ (esc39 h)
theorem cnt_quo : ∀ l : List Nat, cnt 42 (l.flatMap quoQ) = cnt 42 l
  | [] => rfl
  | c :: l => by
    rw [List.flatMap_cons, cnt_append, cnt_cons, cnt_quo l, quoQ]
    by_cases h : c = 39
    · subst h; rfl
    · rw [if_neg h, cnt_cons, cnt_nil, Int.add_zero]
theorem cnt_quoL (l : List Nat) : cnt 42 (quoL l) = cnt 42 l := by
  unfold quoL
  split
  · split
    · rename_i h; subst h; rfl
    · rfl
  · rw [cnt_cons, cnt_append, cnt_quo]
    have : cnt 42 [39] = 0 := rfl
    rw [this, if_neg (by decide)]
    omega
theorem read_word (stars : Int) {rest out : List Nat} (hr : Lx .a rest out) (l : List Nat) (seen : Int) : Lx .a (trGo stars seen (quoL l) ++ rest) (tlGo (l.all safeCh) stars seen l ++ out) := by
  unfold quoL
  cases e : l.all safeCh with
  | true =>
    rw [if_pos rfl]
    by_cases h : l = []
    · subst h
      exact .squote (.sqc hr)
    · rw [if_neg h]
      exact read_safe stars hr l seen e
  | false =>
    rw [if_neg (by decide)]
    rw [trGo, if_neg (by decide), trGo_app]
    have e2 : ∀ s, trGo stars s [39] = [39] := fun s => rfl
    rw [e2]
    have e3 : ([39] ++ (trGo stars seen (l.flatMap quoQ) ++ [39])) ++ rest = 39 :: (trGo stars seen (l.flatMap quoQ) ++ (39 :: rest)) := by simp
    have e4 : esc1 39 = [39] := by decide
    rw [e4, e3]
    exact .squote (read_sq stars l seen (.sqc hr))
theorem read_line (stars : Int) : ∀ (r : List (List Nat)) (seen : Int), Lx .a (trGo stars seen (r.flatMap fun l => 32 :: quoL l)) (lineTold stars seen r)
  | [], seen => .eof
  | l :: r, seen => by
    have ih := read_line stars r (seen + cnt 42 l)
    rw [List.flatMap_cons, List.cons_append, trGo, if_neg (by decide), trGo_app, cnt_quoL, lineTold]
    exact .bs (.esc (read_word stars ih l seen))
theorem joinL_flat (sep : List Nat) : ∀ (r : List (List Nat)) (a : List Nat), joinL sep (a :: r) = a ++ r.flatMap fun b => sep ++ b
  | [], a => by simp [joinL]
  | b :: r, a => by
    rw [joinL, joinL_flat sep r b, List.flatMap_cons]
    simp only [List.append_assoc]
theorem cnt_flat : ∀ r : List (List Nat), cnt 42 (r.flatMap fun l => 32 :: quoL l) = (r.map (cnt 42)).sum
  | [] => rfl
  | l :: r => by
    rw [List.flatMap_cons, cnt_append, cnt_cons, cnt_quoL, cnt_flat r, if_neg (by decide), List.map_cons, List.sum_cons]
    omega
-- what translate_pattern gives, sign by sign
def tailL : List (List Nat) → List Nat
  | [] => []
  | [a] => [46, 42] ++ a
  | a :: b :: r => [40, 63, 62, 46, 42, 63] ++ a ++ [41] ++ tailL (b :: r)
theorem cnt_join (ps : List (List Nat)) : ∀ a, 42 ∉ a → (∀ p ∈ ps, 42 ∉ p) → cnt 42 (joinL [42] (a :: ps)) = ps.length := by
  induction ps with
  | nil => intro a h _; exact cnt_none _ _ h
  | cons b r ih =>
    intro a h hf
    rw [joinL, cnt_append, cnt_append, cnt_none _ _ h, ih b (hf b (.head _)) (fun p q => hf p (.tail _ q))]
    have : cnt 42 [42] = 1 := rfl
    rw [this, List.length_cons]
    omega
theorem go_tail (stars : Int) : ∀ (r : List (List Nat)) (a : List Nat) (seen : Int), 0 ≤ seen → 42 ∉ a → (∀ p ∈ r, 42 ∉ p) → seen + 1 + r.length = stars →
    (if seen + 1 = stars then [46, 42] else [40, 63, 62, 46, 42, 63]) ++ trGo stars (seen + 1) (joinL [42] (a :: r)) = tailL ((a :: r).map escL)
  | [], a, seen, h0, h, hf, e => by
    rw [if_pos (by simpa using e)]
    show [46, 42] ++ trGo stars (seen + 1) a = _
    rw [trGo_free _ _ _ h]
    rfl
  | b :: r, a, seen, h0, h, hf, e => by
    have e' : seen + 1 + 1 + (r.length : Int) = stars := by rw [List.length_cons] at e; omega
    rw [if_neg (by rw [List.length_cons] at e; omega), joinL, List.append_assoc, trGo_app, trGo_free _ _ _ h, cnt_none _ _ h, Int.add_zero]
    have ih := go_tail stars r b (seen + 1) (by omega) (hf b (.head _)) (fun p q => hf p (.tail _ q)) e'
    rw [List.singleton_append, trGo, if_pos rfl, markL, if_pos (by omega : seen + 1 + 1 > 1), List.append_assoc, ih]
    simp [tailL]
theorem go_split (x : List Nat) : (if cnt 42 x > 0 then [] else [46, 42]) ++ trGo (cnt 42 x) 0 x = match (splitL 42 x).map escL with
    | [] => []
    | [a] => [46, 42] ++ a
    | a :: r => a ++ tailL r := by
  have hj : joinL [42] (splitL 42 x) = x := by
    rw [joinL_split]
    induction x with
    | nil => rfl
    | cons c l ih =>
      rw [List.flatMap_cons, ih]
      split
      · rename_i q; rw [q]; rfl
      · rfl
  have hf : ∀ (x : List Nat), ∀ p ∈ splitL 42 x, 42 ∉ p := by
    intro x
    induction x with
    | nil => intro p hp; simp [splitL] at hp; subst hp; simp
    | cons c l ih =>
      intro p hp
      rw [splitL] at hp
      split at hp
      · rcases List.mem_cons.mp hp with rfl | hp
        · simp
        · exact ih p hp
      · rename_i hc
        split at hp
        · rcases List.mem_cons.mp hp with rfl | hp
          · simpa using Ne.symm hc
          · cases hp
        · rename_i q qs eq
          rw [eq] at ih
          rcases List.mem_cons.mp hp with rfl | hp
          · intro q'
            rcases List.mem_cons.mp q' with q' | q'
            · exact hc q'.symm
            · exact ih q (.head _) q'
          · exact ih p (.tail _ hp)
  have hf := hf x
  have hne := splitL_ne 42 x
  generalize splitL 42 x = ps at *
  cases ps with
  | nil => exact absurd rfl hne
  | cons a r =>
    have hc := cnt_join r a (hf a (.head _)) (fun p q => hf p (.tail _ q))
    rw [hj] at hc
    cases r with
    | nil =>
      rw [hc, if_neg (by simp)]
      rw [← hj]
      show _ ++ trGo _ 0 a = _
      rw [trGo_free _ _ _ (hf a (.head _))]
      rfl
    | cons b r =>
      rw [if_pos (by rw [hc, List.length_cons]; omega), List.nil_append]
      have e := go_tail (cnt 42 x) r b 0 (Int.le_refl _) (hf b (.tail _ (.head _))) (fun p q => hf p (.tail _ (.tail _ q))) (by rw [hc, List.length_cons]; omega)
      conv => lhs; arg 3; rw [← hj]
      rw [joinL, List.append_assoc, trGo_app, trGo_free _ _ _ (hf a (.head _)), cnt_none _ _ (hf a (.head _)), Int.add_zero, List.singleton_append, trGo, if_pos rfl, markL, if_neg (by omega : ¬ (0 : Int) + 1 > 1), List.nil_append, e]
      rfl
theorem str_cat (a b : Str) : (a ++ b).cps.toList = a.cps.toList ++ b.cps.toList := by rw [Str.cps_append]; simp
theorem joinL_nil : ∀ ps : List (List Nat), joinL [] ps = ps.flatten
  | [] => rfl
  | [a] => by simp [joinL]
  | a :: b :: r => by rw [joinL, joinL_nil (b :: r)]; simp
theorem tail_snoc (z : List Nat) : ∀ r : List (List Nat), tailL (r ++ [z]) = (r.map fun a => [40, 63, 62, 46, 42, 63] ++ a ++ [41]).flatten ++ ([46, 42] ++ z)
  | [] => rfl
  | [a] => by simp [tailL]
  | a :: b :: r => by
    have := tail_snoc z (b :: r)
    rw [List.cons_append, List.cons_append, tailL, ← List.cons_append, this]
    simp
theorem wrap_list (x : Str) : (wrapS x).cps.toList = [40, 63, 62, 46, 42, 63] ++ x.cps.toList ++ [41] := by
  unfold wrapS
  rw [str_cat, str_cat, str_cat]
  have e1 : (Str.ofString "(?>.*?").cps.toList = [40, 63, 62, 46, 42, 63] := by decide +kernel
  have e2 : (Str.ofString ")").cps.toList = [41] := by decide +kernel
  rw [e1, e2]
  rfl
theorem parts_list (us : List Str) (h : us ≠ []) : joinL [] ((trParts us).map (·.cps.toList)) = match us.map (·.cps.toList) with
    | [] => []
    | [a] => [46, 42] ++ a
    | a :: r => a ++ tailL r := by
  rw [joinL_nil]
  have e3 : (Str.ofString ".*").cps.toList = [46, 42] := by decide +kernel
  have e4 : ∀ x : Str, (Str.empty ++ Str.ofString ".*" ++ x).cps.toList = [46, 42] ++ x.cps.toList := fun x => by rw [str_cat, str_cat, e3]; rfl
  cases us with
  | nil => exact absurd rfl h
  | cons a r =>
    rcases List.eq_nil_or_concat r with rfl | ⟨q, z, rfl⟩
    · show ([(Str.empty ++ Str.ofString ".*" ++ a)].map (·.cps.toList)).flatten = [46, 42] ++ a.cps.toList
      simp only [List.map_cons, List.map_nil, e4, List.flatten_cons, List.flatten_nil, List.append_nil]
    · have e1 : trParts (a :: (q ++ [z])) = a :: (q.map wrapS ++ [Str.empty ++ Str.ofString ".*" ++ z]) := by
        unfold trParts stepT
        have l1 : (a :: (q ++ [z])).length - 2 = q.length := by simp
        have l2 : (a :: (q ++ [z])).length - 1 = q.length + 1 := by simp
        rw [l1, l2]
        have l3 : (a :: (q ++ [z]))[q.length + 1]? = some z := by simp
        rw [l3]
        simp
      rw [List.concat_eq_append, e1]
      have e2 : (a :: (q ++ [z])).map (·.cps.toList) = a.cps.toList :: (q.map (·.cps.toList) ++ [z.cps.toList]) := by simp
      rw [e2]
      have e5 : (match a.cps.toList :: (q.map (·.cps.toList) ++ [z.cps.toList]) with
        | [] => []
        | [a] => [46, 42] ++ a
        | a :: r => a ++ tailL r) = a.cps.toList ++ tailL (q.map (·.cps.toList) ++ [z.cps.toList]) := by
        cases q <;> rfl
      rw [e5, tail_snoc]
      simp only [List.map_cons, List.map_append, List.map_map, List.map_nil, List.flatten_cons, List.flatten_append, List.flatten_nil, List.append_nil, e4]
      congr 3
      apply List.map_congr_left
      intro x _
      exact wrap_list x
theorem trS_list (x : Str) : (trS x).cps.toList = (if cnt 42 x.cps.toList > 0 then [] else [46, 42]) ++ trGo (cnt 42 x.cps.toList) 0 x.cps.toList := by
  unfold trS
  have e0 : (Str.ofString "").cps.toList = [] := by decide +kernel
  have e1 : Str.ofString "*" = ⟨#[42]⟩ := by decide +kernel
  have hs := split_toList x 42
  rw [join_toList, e0, e1, go_split, ← hs]
  have hne : (Txt.split x ⟨#[42]⟩).map escS ≠ [] := fun e => splitL_ne 42 x.cps.toList (by rw [← hs]; simpa using e)
  rw [parts_list _ hne]
  have e2 : ((Txt.split x ⟨#[42]⟩).map escS).map (·.cps.toList) = ((Txt.split x ⟨#[42]⟩).map (·.cps.toList)).map escL := by
    rw [List.map_map, List.map_map]
    rfl
  rw [e2]
theorem stars_sum : ∀ ws : List Str, starsOf ws = ((ws.map (·.cps.toList)).map (cnt 42)).sum
  | [] => rfl
  | x :: ws => by
    have ih := stars_sum ws
    unfold starsOf at ih ⊢
    rw [List.map_cons, List.sum_cons, ih, List.map_cons, List.map_cons, List.sum_cons]
    have e1 : Str.ofString "*" = ⟨#[42]⟩ := by decide +kernel
    rw [e1, count_cnt]
/-- the plain law -/
theorem plain_law {ws : List Str} (h0 : ws[0]? = some (Str.ofString "a-b")) : Lx .start (trS (Str.join (Str.ofString " ") (ws.map quoS))).cps.toList (toldS ws).cps.toList := by
  cases ws with
  | nil => cases h0
  | cons x r =>
    obtain rfl : x = Str.ofString "a-b" := by simpa using h0
    have ea : (Str.ofString "a-b").cps.toList = [97, 45, 98] := by decide +kernel
    have es : (Str.ofString " ").cps.toList = [32] := by decide +kernel
    have hline : (Str.join (Str.ofString " ") ((Str.ofString "a-b" :: r).map quoS)).cps.toList = [97, 45, 98] ++ (r.map (·.cps.toList)).flatMap fun l => 32 :: quoL l := by
      rw [join_toList, es, List.map_cons, List.map_cons, joinL_flat]
      have e1 : (quoS (Str.ofString "a-b")).cps.toList = [97, 45, 98] := by
        show quoL (Str.ofString "a-b").cps.toList = _
        rw [ea]; decide +kernel
      rw [e1, List.map_map, List.flatMap_map, List.flatMap_map]
      rfl
    have hst : cnt 42 ([97, 45, 98] ++ (r.map (·.cps.toList)).flatMap fun l => 32 :: quoL l) = starsOf (Str.ofString "a-b" :: r) := by
      rw [cnt_append, cnt_flat, stars_sum, List.map_cons, List.map_cons, List.sum_cons, ea]
    rw [trS_list, hline, hst]
    have hr := read_line (starsOf (Str.ofString "a-b" :: r)) (r.map (·.cps.toList)) 0
    unfold toldS
    generalize starsOf (Str.ofString "a-b" :: r) = n at hr ⊢
    rw [tellTo, tellAt, if_neg (show ¬ (0 : Nat) > 0 from Nat.lt_irrefl 0)]
    rw [word_go, to_go _ _ _ _ _ (by decide), str_cat, ea]
    have c0 : (0 : Int) + cnt 42 [97, 45, 98] = 0 := rfl
    have t0 : tlGo ([97, 45, 98].all safeCh) n 0 [97, 45, 98] = [97, 45, 98] := by
      have : [97, 45, 98].all safeCh = true := by decide +kernel
      rw [this]; rfl
    have g0 : trGo n 0 [97, 45, 98] = [97, 92, 45, 98] := rfl
    rw [c0, t0, trGo_app, c0, g0]
    have p1 : plainCh 97 := by unfold plainCh; decide
    have p2 : plainCh 98 := by unfold plainCh; decide
    have p3 : plainCh 46 := by unfold plainCh; decide
    have p4 : plainCh 42 := by unfold plainCh; decide
    have mid : Lx .a ([92, 45, 98] ++ trGo n 0 ((r.map (·.cps.toList)).flatMap fun l => 32 :: quoL l)) ([45, 98] ++ lineTold n 0 (r.map (·.cps.toList))) := .bs (.esc (.plain p2 hr))
    split
    · have e0 : (Str.ofString "").cps.toList = [] := by decide +kernel
      rw [e0]
      exact .start p1 mid
    · have e0 : (Str.ofString ".*").cps.toList = [46, 42] := by decide +kernel
      rw [e0]
      exact .start p3 (.plain p4 (.plain p1 mid))
end Mine
-- part La
set_option maxHeartbeats 2000000
namespace Mine
open PySem PySem.W PySem.Calls PyProof.Rows Mpp
theorem joinL_len (sep : List Nat) : ∀ ps : List (List Nat), (joinL sep ps).length ≤ (ps.map List.length).sum + sep.length * ps.length
  | [] => by simp [joinL]
  | [a] => by simp [joinL]
  | a :: b :: r => by
    have := joinL_len sep (b :: r)
    simp only [joinL, List.length_append, List.map_cons, List.sum_cons, List.length_cons] at this ⊢
    rw [Nat.mul_add, Nat.mul_one]
    omega
theorem line_len {ws : List Str} (h : WordsOk ws 63) : (Str.join (Str.ofString " ") (ws.map quoS)).length ≤ 2000 := by
  obtain ⟨_, _, h3⟩ := h
  have h4 := quo_sum ws
  have h5 := joinL_len (Str.ofString " ").cps.toList ((ws.map quoS).map (·.cps.toList))
  rw [← join_toList] at h5
  have e1 : (Str.ofString " ").cps.toList.length = 1 := by decide +kernel
  rw [e1, Nat.one_mul, List.map_map] at h5
  have e2 : (ws.map quoS).map (List.length ∘ fun x : Str => x.cps.toList) = (ws.map quoS).map (·.length) := List.map_congr_left fun x _ => Array.length_toList ..
  rw [e2] at h5
  simp only [List.length_map] at h4 h5
  rw [Array.length_toList] at h5
  show (Str.join (Str.ofString " ") (ws.map quoS)).cps.size ≤ 2000
  unfold lens at h3
  omega
theorem mark_len (stars seen : Int) : (markL stars seen).length ≤ 7 := by
  unfold markL
  split <;> split <;> decide
theorem trGo_len (stars : Int) : ∀ (l : List Nat) (seen : Int), (trGo stars seen l).length ≤ 7 * l.length
  | [], _ => by simp [trGo]
  | c :: l, seen => by
    rw [trGo, List.length_cons]
    split
    · have h1 := trGo_len stars l (seen + 1)
      have h2 := mark_len stars seen
      rw [List.length_append]; omega
    · have h1 := trGo_len stars l seen
      have h2 : (esc1 c).length ≤ 2 := by unfold esc1; split <;> simp
      rw [List.length_append]; omega
theorem trS_len (x : Str) : (trS x).length ≤ 2 + 7 * x.length := by
  show (trS x).cps.size ≤ 2 + 7 * x.cps.size
  rw [← Array.length_toList, ← Array.length_toList, trS_list, List.length_append]
  have h1 := trGo_len (cnt 42 x.cps.toList) x.cps.toList 0
  have h2 : (if cnt 42 x.cps.toList > 0 then ([] : List Nat) else [46, 42]).length ≤ 2 := by split <;> decide
  omega
theorem toldS_len {ws : List Str} (h : WordsOk ws 63) : (toldS ws).length ≤ 2000 := by
  obtain ⟨_, _, h3⟩ := h
  unfold toldS
  have h1 := to_len (starsOf ws) ws (if starsOf ws > 0 then Str.ofString "" else Str.ofString ".*", 0) 0
  have h2 : (if starsOf ws > 0 then Str.ofString "" else Str.ofString ".*").length ≤ 2 := by split <;> decide
  dsimp only at h1
  unfold lens at h1 h3
  omega
theorem txs_strs {xs : Array Value} {ws : List Str} (h : Txs xs ws) : StrsAre xs.toList ws := by
  obtain ⟨h1, h2⟩ := h
  have key : ∀ (vs : List Value) (ws : List Str), vs.length = ws.length → (∀ i (h : i < ws.length), ∃ t, vs[i]? = some (.str ws[i] t)) → StrsAre vs ws := by
    intro vs
    induction vs with
    | nil => intro ws e _; cases ws with
      | nil => exact .nil
      | cons => cases e
    | cons v vs ih => intro ws e h; cases ws with
      | nil => cases e
      | cons u us =>
        obtain ⟨t, ht⟩ := h 0 (by simp)
        obtain rfl : v = .str u t := by simpa using ht
        exact .cons u t (ih us (by simpa using e) fun i hi => by
          obtain ⟨t', ht'⟩ := h (i + 1) (by simpa using hi)
          exact ⟨t', by simpa using ht'⟩)
  exact key _ _ (by simpa using h1) fun i hi => by
    obtain ⟨t, ht⟩ := h2 i hi
    exact ⟨t, by simpa using ht⟩
section
variable {w : World} {A : Around} {s : Shared} {p : Program} {loose : List Str} {mg mb : Str → Option Value} {h₀ : Heap} {L : Addr} {m : Str → Option Value} {Q E : Value → Shared → Prop} {news : List (Addr × Obj)}
theorem news_cons {h : Heap} {S : Addr} {o : Obj} {h1 : Heap} (F : Fr h₀ L h m) (k : Keeps h h1) (N : News h₀ L h news) (e1 : h.get? S = none) (e2 : h1.get? S = some o) : News h₀ L h1 ((S, o) :: news) := fun q hq => by
  rcases List.mem_cons.mp hq with rfl | hq
  · refine ⟨e2, fun e => ?_, ?_⟩
    · obtain ⟨o', _, _, e', _⟩ := id F.ns
      dsimp only at e
      rw [e, e'] at e1; cases e1
    · cases q : h₀.get? S with
      | none => rfl
      | some o' => rw [F.keep _ _ q] at e1; cases e1
  · exact newsK N k q hq
theorem l_words {l : Addr} {nl : Nat} {vs : List Value} {ns : List Int} (F : Fr h₀ L s.heap m) (N : News h₀ L s.heap news) (X : (Mine.Ho.frag w.params).In h₀) (T : TopRead p loose mg mb h₀) (hl : (l, lstO vs.toArray nl) ∈ news) (hi : IntsAre vs ns) (hn : ns.length ≤ 63) (hh : A.handled = none) (hd : A.depth < 850)
    (h : ∀ h' tk S xs n ws, Txs xs ws → WordsOk ws 63 → Fr h₀ L h' m → News h₀ L h' ((S, lstO xs n) :: news) → Q (.ref S) { s with heap := h', toks := tk }) :
    wpAny (model PG w) A (call (.ref 785) [.ref l]) Q E s :=
  words_c (X.keeps F.keep) (T.keeps F.keep) ⟨_, (N _ hl).1, rfl, _, rfl⟩ hi hn hh hd fun h' tk S xs n ws e1 e2 e3 e4 k => h h' tk S xs n ws e3 e4 (frK F k) (news_cons F k N e1 e2)
theorem l_join {S bm : Addr} {ob : Obj} {xs : Array Value} {n : Nat} {ws : List Str} (F : Fr h₀ L s.heap m) (N : News h₀ L s.heap news) (X : (Mine.Ho.frag w.params).In h₀) (T : TopRead p loose mg mb h₀) (M : BMod h₀ mainGlobals mg bm ob) (h1 : (S, lstO xs n) ∈ news) (h2 : (765, tabObj #[]) ∈ news) (ht : Txs xs ws) (hw : WordsOk ws 63)
    (G : AllBare s.gens) (hh : A.handled = none) (hd : A.depth < 790)
    (h : ∀ h' g' d' tk' ps t', AllBare g' → Fr h₀ L h' m → News h₀ L h' [(S, lstO xs n), (765, tabObj ps)] → Q (.str (Str.join (Str.ofString " ") (ws.map quoS)) t') ⟨h', g', d', tk', s.os⟩) :
    wpAny (model PG w) A (call (.ref 770) [.ref S]) Q E s := by
  obtain ⟨_, _, w3⟩ := id hw
  have hlen : ∀ i, (ws.getD i "").length < 1000000 := fun i => by
    rw [List.getD_eq_getElem?_getD]
    cases q : ws[i]? with
    | none => exact (by decide : (default : Str).length < 1000000)
    | some y => have := mem_lens (List.mem_of_getElem? q); show y.length < _; omega
  have hS : S ≠ 765 := fun e => by
    have e1 := (N _ h1).1
    have e2 := (N _ h2).1
    dsimp only at e1 e2
    rw [e, e2] at e1; cases e1
  refine join_c (items := xs) (ts := ws) X T F.keep (N _ h2).2.2 (N _ h2).1 M G ⟨_, (N _ h1).1, rfl, _, rfl⟩ (fun i v hv => ?_) hlen ht.1 (by unfold lens at w3; omega) hh hd fun s' t' k1 k2 k3 k4 => ?_
  · obtain ⟨e1, e2⟩ := ht
    have hi : i < ws.length := by
      rw [← e1]
      exact (Array.getElem?_eq_some_iff.mp hv).1
    obtain ⟨t, et⟩ := e2 i hi
    rw [hv] at et
    refine ⟨t, (Option.some.inj et).trans ?_⟩
    rw [List.getD_eq_getElem?_getD, List.getElem?_eq_getElem hi]
    rfl
  · obtain ⟨h', g', d', tk', os'⟩ := s'
    obtain ⟨ps, k2⟩ := k2
    dsimp only at k1 k2 k3 k4
    subst k4
    refine h h' g' d' tk' ps t' k3 (frBut F (fun q => ?_) (fun a q => ?_) k1) (newsBut N k1 fun q hq => ?_)
    · exact (N _ h2).2.1 (List.mem_singleton.mp q).symm
    · rw [List.mem_singleton.mp q]; exact (N _ h2).2.2
    · rcases List.mem_cons.mp hq with rfl | hq
      · exact .inl ⟨h1, fun q => hS (List.mem_singleton.mp q)⟩
      · rw [List.mem_singleton.mp hq]
        exact .inr ⟨k2, _, h2⟩
theorem l_trans {x : Str} {t : Tok} (F : Fr h₀ L s.heap m) (N : News h₀ L s.heap news) (X : (Mine.Ho.frag w.params).In h₀) (T : TopRead p loose mg mb h₀) (hh : A.handled = none) (hd : A.depth < 850) (hx9 : x.length ≤ 2000)
    (h : ∀ h' tk t', Fr h₀ L h' m → News h₀ L h' news → Q (.str (trS x) t') { s with heap := h', toks := tk }) :
    wpAny (model PG w) A (call (.ref 63) [.str x t]) Q E s :=
  translate_c (X.keeps F.keep) (T.keeps F.keep) hh hd (by omega) fun h' tk t' k => h h' tk t' (frK F k) (newsK N k)
theorem l_split {env : Env} {v : Str} {t : Tok} {u : Str} (F : Fr h₀ L s.heap m) (N : News h₀ L s.heap news) (X : (Mine.Ho.frag w.params).In h₀) (T : TopRead p loose mg mb h₀) (hfr : A.frames = some [env]) (hk : env.scope.kind ≠ .module) (hf : env.frame = some L) (hh : A.handled = none) (hd : A.depth < 800)
    (hb : v.length < 1000000) (hl : Lx .start v.cps.toList u.cps.toList) (ho : u.length < 1000000)
    (h : ∀ h' tk t' S n, Fr h₀ L h' m → News h₀ L h' ((S, lstO #[.str u t'] n) :: news) → Q (.ref S) { s with heap := h', toks := tk }) :
    wpAny (model PG w) A (call (.ref 763) [.str v t]) Q E s := by
  obtain ⟨oL, es, ep, gL, dL, rL⟩ := id F.ns
  have nf : ∀ vs, oL.data ≠ .fields vs := fun vs q => by rw [dL] at q; cases q
  refine split_c (X.keeps F.keep) (T.keeps F.keep) hfr hh (fun e he => ?_) hd hb hl (by rw [← str_eta u]; exact ho) fun h' tk t' S n e1 e2 e3 e4 => ?_
  · rw [List.mem_singleton.mp he]
    exact ⟨hk, L, oL, hf, gL, nf⟩
  · rw [← str_eta u] at e2
    obtain ⟨sl, e5⟩ := e4 L oL gL nf
    have kb : ∀ b o, b ≠ L → s.heap.get? b = some o → h'.get? b = some o := fun b o hb e => e3 b o (fun q => by
      obtain ⟨v, hv, hvf⟩ := List.mem_filterMap.mp q
      rw [List.mem_singleton.mp hv, hf] at hvf
      exact hb (Option.some.inj hvf).symm) e
    have h0L : h₀.get? L = none := by
      cases q : h₀.get? L with
      | none => rfl
      | some o => exact absurd (Heap.lt_size q) (Nat.not_lt.mpr F.above)
    refine h h' tk t' S n ⟨⟨_, es, ep, e5, dL, rL⟩, fun b o e => kb b o (fun q => by rw [q, h0L] at e; cases e) (F.keep b o e), F.above⟩ fun q hq => ?_
    rcases List.mem_cons.mp hq with rfl | hq
    · refine ⟨e2, fun e => ?_, ?_⟩
      · dsimp only at e; rw [e, gL] at e1; cases e1
      · cases q : h₀.get? S with
        | none => rfl
        | some o' => rw [F.keep _ _ q] at e1; cases e1
    · exact ⟨kb _ _ (N q hq).2.1 (N q hq).1, (N q hq).2⟩
theorem l_split2 {env : Env} {t : Tok} {ws : List Str} (F : Fr h₀ L s.heap m) (N : News h₀ L s.heap news) (X : (Mine.Ho.frag w.params).In h₀) (T : TopRead p loose mg mb h₀) (hw : WordsOk ws 63) (hfr : A.frames = some []) (hk : env.scope.kind ≠ .module) (hf : env.frame = some L) (hh : A.handled = none) (hd : A.depth < 750)
    (h : ∀ h' tk t' S n, Fr h₀ L h' m → News h₀ L h' ((S, lstO #[.str (toldS ws) t'] n) :: news) → Q (.ref S) { s with heap := h', toks := tk }) :
    wpAny (model PG w) (A.deeper env) (call (.ref 763) [.str (trS (Str.join (Str.ofString " ") (ws.map quoS))) t]) Q E s := by
  have h1 := trS_len (Str.join (Str.ofString " ") (ws.map quoS))
  have h2 := line_len hw
  have h3 := toldS_len hw
  exact l_split (env := env) F N X T (by show Option.map _ A.frames = _; rw [hfr]; rfl) hk hf hh (by show A.depth + 1 < 800; omega) (by omega) (plain_law hw.2.1) (by omega) h
theorem l_same {D b : Addr} {u : Str} {t t' : Tok} {n k : Nat} (N : News h₀ L s.heap news) (hl : (D, lstO #[.str u t] n) ∈ news) (hb : (b, lstO #[.str u t'] k) ∈ news) (hu : A.units < cLine) (h : Q (.bool true) s) :
    wpAny (model PG w) A (compareOp .Eq (.ref D) (.ref b)) Q E s := by
  have l1 : s.heap.IsList D #[.str u t] := ⟨_, (N _ hl).1, rfl, _, rfl⟩
  have l2 : s.heap.IsList b #[.str u t'] := ⟨_, (N _ hb).1, rfl, _, rfl⟩
  refine SeqAt.eq_listAt (e := fun _ => true) l1 l2 rfl hu (fun j h1 h2 => ?_) h
  obtain rfl : j = 0 := by simpa using h1
  have := eqGives_str u u t t'
  rw [beq_self_eq_true] at this
  exact this.at _ _
end
end Mine
-- part Lf
set_option maxHeartbeats 2000000
namespace Mine
open PySem PySem.W PySem.Calls PyProof.Rows Mpp
section
variable {w : World} {A : Around} {s : Shared} {p : Program} {loose : List Str} {mg mb : Str → Option Value} {h₀ : Heap} {L : Addr} {m : Str → Option Value} {Q E : Value → Shared → Prop} {news : List (Addr × Obj)}
theorem l_told {S : Addr} {xs : Array Value} {n : Nat} {ws : List Str} (F : Fr h₀ L s.heap m) (N : News h₀ L s.heap news) (X : (Mine.Ho.frag w.params).In h₀) (T : TopRead p loose mg mb h₀) (h1 : (S, lstO xs n) ∈ news) (ht : Txs xs ws) (hw : WordsOk ws 63) (hh : A.handled = none) (hd : A.depth < 850) (hu : A.units < 9000)
    (h : ∀ h' tk t', Fr h₀ L h' m → News h₀ L h' news → Q (.str (toldS ws) t') { s with heap := h', toks := tk }) :
    wpAny (model PG w) A (call (.ref 790) [.ref S]) Q E s := by
  obtain ⟨_, _, w3⟩ := id hw
  exact told_c (vs := xs.toList) (X.keeps F.keep) (T.keeps F.keep) ⟨_, (N _ h1).1, rfl, _, rfl⟩ (txs_strs ht) (by omega) hh hd hu fun h' tk t' k => h h' tk t' (frK F k) (newsK N k)
theorem law_c {l bm : Addr} {ob : Obj} {vs : List Value} {ns : List Int} {R : Result → Shared → Prop} (X₀ : (Mine.Ho.frag w.params).In h₀) (T₀ : TopRead p loose mg mb h₀) (k₀ : Keeps h₀ s.heap) (h765 : h₀.get? 765 = none) (hP : s.heap.get? 765 = some (tabObj #[])) (M : BMod h₀ mainGlobals mg bm ob)
    (G : AllBare s.gens) (hl : h₀.IsList l vs.toArray) (hi : IntsAre vs ns) (hn : ns.length ≤ 63) (hh : A.handled = none) (hd : A.depth < 700) (hu : A.units < 8000) (hfr : A.frames = some [])
    (h : ∀ s', KeepsBut [765] s.heap s'.heap → (∃ ps, s'.heap.get? 765 = some (tabObj ps)) → AllBare s'.gens → s'.os = s.os → R (.ok (.ret (.bool true))) s') :
    codeAny (model PG w) A (.call (.ref 797) ⟨[.ref l], []⟩) R s := by
  k_with_none
  k_with "enter" => (k_dflt (case k1 => k_asm); (case k2 => k_asm); (case k3 => k_asm); (case k4 => assumption); (case k5 => k_is); (case k6 => k_is); (case k8 => first | exact BindsTo.of_eq rfl | exact binds_K (by assumption) rfl (by k_is) rfl rfl rfl); (case k9 => exact locs rfl); (case c1 => exact rfl); (case c2 => exact rfl); (case c3 => exact rfl); (case c4 => decide))
  k_with "call ref" => ((with_reducible show wpAny _ _ (call (Value.ref 785) _) _ _ _); refine' l_words ?k1 ?k2 ?k3 ?k4 ?k5 ?k6 ?k7 ?k8 ?k9 ?_; (case k1 => k_asm); (case k2 => k_asm); (case k3 => k_asm); (case k4 => k_asm); (case k5 => first | exact .head _ | k_mem); (case k6 => assumption); (case k7 => (simp only [List.length_take]; omega)); (case k8 => (show Around.handled _ = _; assumption)); (case k9 => (show _ + 1 < _; omega)); intro h' tk' S' xs' n' ws' e1' e2' F' N'; (try k_sweep))
  k_with "call ref" => ((with_reducible show wpAny _ _ (call (Value.ref 770) _) _ _ _); refine' l_join ?k1 ?k2 ?k3 ?k4 ?k5 ?k6 ?k7 ?k8 ?k9 ?ka ?kb ?kc ?_; (case k1 => k_asm); (case k2 => k_asm); (case k3 => k_asm); (case k4 => k_asm); (case k5 => assumption); (case k6 => k_mem); (case k7 => k_mem); (case k8 => assumption); (case k9 => assumption); (case ka => assumption); (case kb => (show Around.handled _ = _; assumption)); (case kc => (show _ + 1 < _; omega)); intro h' g' d' tk' ps' t' G' F' N'; (try k_sweep))
  k_with "call ref" => ((with_reducible show wpAny _ _ (call (Value.ref 63) _) _ _ _); refine' l_trans ?k1 ?k2 ?k3 ?k4 ?k5 ?k6 ?k7 ?_; (case k1 => k_asm); (case k2 => k_asm); (case k3 => k_asm); (case k4 => k_asm); (case k5 => (show Around.handled _ = _; assumption)); (case k6 => (show _ + 1 < _; omega)); (case k7 => exact line_len (by assumption)); intro h' tk' t' F' N'; (try k_sweep))
  k_with "call ref" => ((with_reducible show wpAny _ _ (call (Value.ref 763) _) _ _ _); refine' l_split2 ?k1 ?k2 ?k3 ?k4 ?ka ?k5 ?k6 ?k7 ?k8 ?k9 ?_; (case k1 => k_asm); (case k2 => k_asm); (case k3 => k_asm); (case k4 => k_asm); (case ka => assumption); (case k5 => assumption); (case k6 => (intro q; cases q)); (case k7 => exact rfl); (case k8 => assumption); (case k9 => omega); intro h' tk' t' S' n' F' N'; (try k_sweep))
  k_with "call ref" => ((with_reducible show wpAny _ _ (call (Value.ref 790) _) _ _ _); refine' l_told ?k1 ?k2 ?k3 ?k4 ?k5 ?k6 ?k7 ?k8 ?k9 ?ka ?_; (case k1 => k_asm); (case k2 => k_asm); (case k3 => k_asm); (case k4 => k_asm); (case k5 => k_mem); (case k6 => assumption); (case k7 => assumption); (case k8 => (show Around.handled _ = _; assumption)); (case k9 => (show _ + 1 < _; omega)); (case ka => (show _ + 3 < _; omega)); intro h' tk' t' F' N'; (try k_sweep))
  k_with "compareOp Eq ref ref" => (refine' l_same ?k1 ?k2 ?k3 ?k4 ?_; (case k1 => k_asm); (case k2 => k_mem); (case k3 => k_mem); (case k4 => (show _ + 3 < cLine; unfold cLine; omega)))
  have hn0 : ∀ p ∈ [((765 : Addr), tabObj #[])], s.heap.get? p.1 = some p.2 ∧ h₀.get? p.1 = none := fun q hq => by
    rcases List.mem_singleton.mp hq with rfl; exact ⟨hP, h765⟩
  refine' code_fnH (h₀ := h₀) (news := [(765, tabObj #[])]) (binds := [(Str.ofString "script", .ref l)]) ?k1 ?k2 ?k3 ?k4 ?k5 ?k6 ?k7 ?k8 ?k9 ?_ ?c1 ?c2 ?c3 ?c4
  walk_at "enter"
  case k7 => exact Nat.lt_trans hd (by decide)
  intro g L h₁ tk kb Xg Tg F N hlt
  k_fold
  have hlg : g.IsList l vs.toArray := by
    obtain ⟨o, ho, r⟩ := id hl
    exact ⟨o, kb _ _ (fun q => by rw [List.mem_singleton.mp q, h765] at ho; cases ho) (k₀ _ _ ho), r⟩
  have Mg : BMod g mainGlobals mg bm ob := M.keeps fun b o e => kb b o (fun q => by rw [List.mem_singleton.mp q, h765] at e; cases e) (k₀ b o e)
  clear M hl hP h765 hn0 X₀ T₀ k₀
  k_steps
  rename Fr g L _ _ => F1
  rename News g L _ _ => N1
  exact h _ (fun b o hb e => F1.keep b o (kb b o hb e)) ⟨_, (N1 (765, tabObj _) (by k_mem)).1⟩ (by assumption) rfl
end
end Mine
-- part Lg
set_option maxHeartbeats 2000000
namespace Mine
open PySem PySem.W PySem.Calls PyProof.Rows Mpp
theorem law_good {w : World} {s₁ : Shared} {p : Program} {loose : List Str} {mean mean' : ExcName → Option Value} {mg mb : Str → Option Value} {fa l : Addr} {vs : List Value} {ns : List Int} {c : ClaimW} {cl : Str → Option Addr} {args : List WData}
    (KX : (Mine.Ho.frag w.params).In s₁.heap) (T : Top p loose mean mg mb s₁.heap) (hr : ((recsOf p).find? (fun e => e.name == Str.ofString "join")).isSome = true) (ht : tabIn (Mine.Ho.frag w.params) (Str.ofString "join") = some (769, 765)) (hK : noTabs (Mine.Ho.frag w.params) = true)
    (hlaw : nsIn (Mine.Ho.frag w.params) mainGlobals (Str.ofString "law") = some (some (.ref 797)))
    (hmg : mg (Str.ofString "law") = some (.ref fa)) (hg : s₁.gens = #[]) (hL : s₁.heap.IsList l vs.toArray) (hI : IntsAre vs ns) (hn : ns.length ≤ 63) (hno : ∀ x, c.raises args x = false) (hp : c.post args (.bool true) args = true) :
    codeAny (model PG w) callerA (.call (.ref fa) ⟨[.ref l], []⟩) (GoodWG c cl mean' args s₁) s₁ := by
  have h1 := mg_of KX T.g hlaw
  rw [hmg] at h1
  obtain rfl : fa = 797 := by cases h1; rfl
  obtain ⟨d, hr⟩ := Option.isSome_iff_exists.mp hr
  have hT := tab_of T KX hr ht
  have hT9 : TabsAt [(769, 765)] s₁.heap := fun q hq => by rw [List.mem_singleton.mp hq]; exact hT
  have T' := ghost_top hT9 T
  obtain ⟨bm, ob, M⟩ := bmod_of_top T'
  refine law_c (ghost_K hT9 KX hK) (topRead_of T') (fun b o e => of_hideAll _ e) (hideAll_none _ (.head _)) hT.2 M (.of_eq hg) (ghost_list hT9 hL) hI hn rfl (by decide +kernel) (by decide +kernel) rfl fun s' k1 k2 k3 k4 => ?_
  obtain ⟨ps, k2⟩ := k2
  refine ⟨.inl ⟨.bool true, .bool true, [], rfl, hno, ReadsW.bool true, hp, fun _ => ⟨List.nodup_nil, fun _ hm => nomatch hm⟩⟩, ⟨fun b o e => ?_, fun b o e => ?_⟩, k4, k3⟩
  · by_cases hb : b = 765
    · subst hb
      have e2 := hT.2
      rw [e] at e2
      obtain rfl := Option.some.inj e2
      exact .inr (.inl ⟨(hT.1.tab hT.2).isCodeTable, rfl, #[], ps, rfl, by rw [Array.empty_append]; exact k2⟩)
    · exact .inl (k1 b o (fun q => hb (List.mem_singleton.mp q)) e)
  · by_cases hb : b = 765
    · subst hb; exact ⟨_, k2⟩
    · exact ⟨o, k1 b o (fun q => hb (List.mem_singleton.mp q)) e⟩
end Mine
-- part Fi
set_option maxHeartbeats 2000000
open PySem PySem.W PySem.Calls PyProof.Rows
theorem PySem.Challenge.cw_ny0303_01_holds : PySem.Challenge.rw_ny0303_01.Holds :=
  Mine.Ho.frag_hd (by
  k_fill
  intro w s₀ s₁ mg mb G Y fa o pm cd doc dV kV ho hd hcd hD hmg hg args vals as hpre hlay hrd hwl hlo
  have KX := kIn_of Y
  refine Ground.open G ?_
  intro T B D TE TW
  wrow_args hpre hlay hrd hwl hlo
  all_goals (
    first | refine callC_kw (enter_call ?_) | refine enter_call ?_
    refine' Mine.law_good KX T ?k1 ?k2 ?k3 ?k4 hmg hg ?k5 ?k6 ?k7 ?k8 ?k9
    (case k5 => assumption)
    (case k6 => assumption)
    (case k7 => omega)
    (case k8 => exact fun _ => rfl)
    (case k9 => first | rfl | wrow_post)
    (case k3 => kernel_rfl)
    (case k2 => kernel_rfl)
    (case k4 => kernel_rfl)
    (case k1 => kernel_rfl)))
