import PyProof.Rows.All
import Wide.All
import OpenK.AllK
import Wide.FinOn
import Lean
import PySem.Challenge.RW_in0210_01
open PySem PySem.W PyProof.Rows PySem.Calls
open PySem.Str (ofString)
set_option Elab.async false
set_option maxRecDepth 100000
set_option rowWalk.seconds 0
set_option linter.all false
set_option genSizeOf false
set_option maxHeartbeats 8000000
namespace Mine
namespace H
noncomputable abbrev pw : Program := PySem.Challenge.pw_in0210_01
noncomputable def s (x : String) : Str := ofString x
noncomputable def S (x : String) (t : Tok) : Value := .str (ofString x) t
noncomputable def R (a : Addr) : Value := .ref a
noncomputable def B (x : String) : Value := .builtin x
noncomputable def T (x : String) : Value := .type x
noncomputable def I (i : Int) (t : Tok) : Value := .int i t
noncomputable def V0 : Value := .none
noncomputable def D (P : Params) (x : String) (t : Tok) (v : Value) : DictEntry := ⟨PyData.keyHash P (ofString x), .str (ofString x) t, v⟩
noncomputable def nost : Stmt := .Pass ⟨0, 0, 0, 0⟩
noncomputable def st (i : Nat) : Stmt := (pw.main.body[i]?).getD nost
noncomputable def fa : Stmt → Arguments
  | .FunctionDef _ a _ _ _ _ _ _ _ _ => a
  | _ => ⟨[], [], none, [], [], none, []⟩
noncomputable def fb : Stmt → List Stmt
  | .FunctionDef _ _ b _ _ _ _ _ _ _ => b
  | _ => []
noncomputable def fs : Stmt → Scope
  | .FunctionDef _ _ _ _ _ _ sc _ _ _ => sc
  | _ => { kind := .function, names := [], isGenerator := false, isCoroutine := false }
noncomputable def cs (i j : Nat) : Stmt := match st i with
  | .ClassDef _ _ _ b _ _ _ _ _ _ _ => (b[j]?).getD nost
  | _ => nost
noncomputable def o0 (P : Params) : Obj := (Obj.mk (T "dict") (Option.none) (Data.dict #[(D P "__name__" 1 (S "builtins" 160)), (D P "__doc__" 2 (B "builtins.__doc__:str#opaque")), (D P "__package__" 3 (B "builtins.__package__:str#opaque")), (D P "__loader__" 4 (B "builtins.__loader__:shared#opaque")), (D P "__spec__" 5 (B "builtins.__spec__#opaque")), (D P "__build_class__" 6 (B "__build_class__")), (D P "__import__" 7 (B "__import__")), (D P "abs" 8 (B "abs")), (D P "all" 9 (B "all")), (D P "any" 10 (B "any")), (D P "ascii" 11 (B "ascii")), (D P "bin" 12 (B "bin")), (D P "breakpoint" 13 (B "breakpoint")), (D P "callable" 14 (B "callable")), (D P "chr" 15 (B "chr")), (D P "compile" 16 (B "compile")), (D P "delattr" 17 (B "delattr")), (D P "dir" 18 (B "dir")), (D P "divmod" 19 (B "divmod")), (D P "eval" 20 (B "eval")), (D P "exec" 21 (B "exec")), (D P "format" 22 (B "format")), (D P "getattr" 23 (B "getattr")), (D P "globals" 24 (B "globals")), (D P "hasattr" 25 (B "hasattr")), (D P "hash" 26 (B "hash")), (D P "hex" 27 (B "hex")), (D P "id" 28 (B "id")), (D P "input" 29 (B "input")), (D P "isinstance" 30 (B "isinstance")), (D P "issubclass" 31 (B "issubclass")), (D P "iter" 32 (B "iter")), (D P "aiter" 33 (B "aiter")), (D P "len" 34 (B "len")), (D P "locals" 35 (B "locals")), (D P "max" 36 (B "max")), (D P "min" 37 (B "min")), (D P "next" 38 (B "next")), (D P "anext" 39 (B "anext")), (D P "oct" 40 (B "oct")), (D P "ord" 41 (B "ord")), (D P "pow" 42 (B "pow")), (D P "print" 43 (B "print")), (D P "repr" 44 (B "repr")), (D P "round" 45 (B "round")), (D P "setattr" 46 (B "setattr")), (D P "sorted" 47 (B "sorted")), (D P "sum" 48 (B "sum")), (D P "vars" 49 (B "vars")), (D P "None" 50 V0), (D P "Ellipsis" 51 Value.ellipsis), (D P "NotImplemented" 52 Value.notImplemented), (D P "False" 53 (Value.bool Bool.false)), (D P "True" 54 (Value.bool Bool.true)), (D P "bool" 55 (T "bool")), (D P "memoryview" 56 (T "memoryview")), (D P "bytearray" 57 (T "bytearray")), (D P "bytes" 58 (T "bytes")), (D P "classmethod" 59 (T "classmethod")), (D P "complex" 60 (T "complex")), (D P "dict" 61 (T "dict")), (D P "enumerate" 62 (T "enumerate")), (D P "filter" 63 (T "filter")), (D P "float" 64 (T "float")), (D P "frozenset" 65 (T "frozenset")), (D P "property" 66 (T "property")), (D P "int" 67 (T "int")), (D P "list" 68 (T "list")), (D P "map" 69 (T "map")), (D P "object" 70 (T "object")), (D P "range" 71 (T "range")), (D P "reversed" 72 (T "reversed")), (D P "set" 73 (T "set")), (D P "slice" 74 (T "slice")), (D P "staticmethod" 75 (T "staticmethod")), (D P "str" 76 (T "str")), (D P "super" 77 (T "super")), (D P "tuple" 78 (T "tuple")), (D P "type" 79 (T "type")), (D P "zip" 80 (T "zip")), (D P "__debug__" 81 (Value.bool Bool.true)), (D P "BaseException" 82 (T "BaseException")), (D P "BaseExceptionGroup" 83 (T "BaseExceptionGroup")), (D P "Exception" 84 (T "Exception")), (D P "GeneratorExit" 85 (T "GeneratorExit")), (D P "KeyboardInterrupt" 86 (T "KeyboardInterrupt")), (D P "SystemExit" 87 (T "SystemExit")), (D P "ArithmeticError" 88 (T "ArithmeticError")), (D P "AssertionError" 89 (T "AssertionError")), (D P "AttributeError" 90 (T "AttributeError")), (D P "BufferError" 91 (T "BufferError")), (D P "EOFError" 92 (T "EOFError")), (D P "ImportError" 93 (T "ImportError")), (D P "LookupError" 94 (T "LookupError")), (D P "MemoryError" 95 (T "MemoryError")), (D P "NameError" 96 (T "NameError")), (D P "OSError" 97 (T "OSError")), (D P "ReferenceError" 98 (T "ReferenceError")), (D P "RuntimeError" 99 (T "RuntimeError")), (D P "StopAsyncIteration" 100 (T "StopAsyncIteration")), (D P "StopIteration" 101 (T "StopIteration")), (D P "SyntaxError" 102 (T "SyntaxError")), (D P "SystemError" 103 (T "SystemError")), (D P "TypeError" 104 (T "TypeError")), (D P "ValueError" 105 (T "ValueError")), (D P "Warning" 106 (T "Warning")), (D P "FloatingPointError" 107 (T "FloatingPointError")), (D P "OverflowError" 108 (T "OverflowError")), (D P "ZeroDivisionError" 109 (T "ZeroDivisionError")), (D P "BytesWarning" 110 (T "BytesWarning")), (D P "DeprecationWarning" 111 (T "DeprecationWarning")), (D P "EncodingWarning" 112 (T "EncodingWarning")), (D P "FutureWarning" 113 (T "FutureWarning")), (D P "ImportWarning" 114 (T "ImportWarning")), (D P "PendingDeprecationWarning" 115 (T "PendingDeprecationWarning")), (D P "ResourceWarning" 116 (T "ResourceWarning")), (D P "RuntimeWarning" 117 (T "RuntimeWarning")), (D P "SyntaxWarning" 118 (T "SyntaxWarning")), (D P "UnicodeWarning" 119 (T "UnicodeWarning")), (D P "UserWarning" 120 (T "UserWarning")), (D P "BlockingIOError" 121 (T "BlockingIOError")), (D P "ChildProcessError" 122 (T "ChildProcessError")), (D P "ConnectionError" 123 (T "ConnectionError")), (D P "FileExistsError" 124 (T "FileExistsError")), (D P "FileNotFoundError" 125 (T "FileNotFoundError")), (D P "InterruptedError" 126 (T "InterruptedError")), (D P "IsADirectoryError" 127 (T "IsADirectoryError")), (D P "NotADirectoryError" 128 (T "NotADirectoryError")), (D P "PermissionError" 129 (T "PermissionError")), (D P "ProcessLookupError" 130 (T "ProcessLookupError")), (D P "TimeoutError" 131 (T "TimeoutError")), (D P "IndentationError" 132 (T "IndentationError")), (D P "_IncompleteInputError" 133 (T "_IncompleteInputError")), (D P "IndexError" 134 (T "IndexError")), (D P "KeyError" 135 (T "KeyError")), (D P "ModuleNotFoundError" 136 (T "ModuleNotFoundError")), (D P "NotImplementedError" 137 (T "NotImplementedError")), (D P "PythonFinalizationError" 138 (T "PythonFinalizationError")), (D P "RecursionError" 139 (T "RecursionError")), (D P "UnboundLocalError" 140 (T "UnboundLocalError")), (D P "UnicodeError" 141 (T "UnicodeError")), (D P "BrokenPipeError" 142 (T "BrokenPipeError")), (D P "ConnectionAbortedError" 143 (T "ConnectionAbortedError")), (D P "ConnectionRefusedError" 144 (T "ConnectionRefusedError")), (D P "ConnectionResetError" 145 (T "ConnectionResetError")), (D P "TabError" 146 (T "TabError")), (D P "UnicodeDecodeError" 147 (T "UnicodeDecodeError")), (D P "UnicodeEncodeError" 148 (T "UnicodeEncodeError")), (D P "UnicodeTranslateError" 149 (T "UnicodeTranslateError")), (D P "ExceptionGroup" 150 (T "ExceptionGroup")), (D P "EnvironmentError" 151 (T "OSError")), (D P "IOError" 152 (T "OSError")), (D P "open" 153 (B "open")), (D P "quit" 154 (B "builtins.quit#opaque")), (D P "exit" 155 (B "builtins.exit#opaque")), (D P "copyright" 156 (B "builtins.copyright#opaque")), (D P "credits" 157 (B "builtins.credits#opaque")), (D P "license" 158 (B "builtins.license#opaque")), (D P "help" 159 (B "builtins.help#opaque"))] 159) #[])
noncomputable def o1 (P : Params) : Obj := (Obj.mk (T "dict") (Option.none) (Data.dict #[(D P "builtins" 162 (R 4)), (D P "__main__" 163 (R 5)), (D P "_sre" 244 (R 12))] 3) #[])
noncomputable def o2 (P : Params) : Obj := (Obj.mk V0 (Option.none) (Data.dict #[(D P "\x69mport.loaded._sre" 183 (Value.bool Bool.true)), (D P "class._frozen_importlib.BuiltinImporter" 185 (R 14)), (D P "watched.\x69mport" 206 (R 18)), (D P "class._frozen_importlib.ModuleSpec" 216 (R 22)), (D P "sys.modules.booked-epoch" 245 (I 3 0)), (D P "\x69mport.later-laid._sre" 270 (Value.bool Bool.true)), (D P "watched.library" 272 (R 27)), (D P "watched.library-objects" 0 (S "\x0c" 0)), (D P "watched.library-deep._sre" 273 (S "\x04\x00\x00\x0b\x04\x00\x00\x0b\x04\x00\x00\x03\x04\x00\x00\x0b\x08\x04dict\x02" 0))] 9) #[])
noncomputable def o3 (P : Params) : Obj := (Obj.mk (T "dict") (Option.none) (Data.dict #[(D P "__name__" 165 (S "__main__" 164)), (D P "__doc__" 166 V0), (D P "__package__" 167 V0), (D P "__loader__" 168 (B "__main__.__loader__#opaque")), (D P "__spec__" 169 V0), (D P "__annotations__" 170 (R 6)), (D P "__builtins__" 171 (R 4)), (D P "__file__" 173 (S "/claim/cut.py" 172)), (D P "__cached__" 174 V0), (D P "_sre" 275 (R 12))] 10) #[])
noncomputable def o4 (P : Params) : Obj := (Obj.mk (T "module") (Option.some 0) Data.plain #[])
noncomputable def o5 (P : Params) : Obj := (Obj.mk (T "module") (Option.some 3) Data.plain #[])
noncomputable def o6 (P : Params) : Obj := (Obj.mk (T "dict") (Option.none) (Data.dict #[] 0) #[])
noncomputable def o7 (P : Params) : Obj := (Obj.mk (T "tuple") (Option.none) (Data.seq #[] 0) #[])
noncomputable def o8 (P : Params) : Obj := (Obj.mk V0 (Option.none) (Data.fields #[]) #[])
noncomputable def o9 (P : Params) : Obj := (Obj.mk (T "code") (Option.none) (Data.fields #[(S "<module>" 176), (S "<module>" 177), (S "/claim/cut.py" 178), (I 1 0), (I 0 0), (I 0 0), (I 0 0), (I 0 0), (R 7), (Value.bool Bool.false), (I 175 0), (R 8), V0, V0, V0, V0, (I 179 0), (I 1 0), (S "/claim/cut.py" 180)]) #[])
noncomputable def o10 (P : Params) : Obj := (Obj.mk (T "frame") (Option.none) Data.plain #[(Option.some (R 9)), (Option.some (R 3)), (Option.some (R 3)), (Option.none), (Option.some (S "__main__" 164)), (Option.none), (Option.some (R 0))])
noncomputable def o11 (P : Params) : Obj := (Obj.mk (T "dict") (Option.none) (Data.dict #[(D P "__name__" 247 (S "_sre" 246)), (D P "__doc__" 248 V0), (D P "__package__" 250 (S "" 249)), (D P "__loader__" 251 (R 14)), (D P "__spec__" 252 (R 26)), (D P "compile" 253 (B "_sre.compile")), (D P "template" 254 (B "_sre.template")), (D P "getcodesize" 255 (B "_sre.getcodesize")), (D P "ascii_iscased" 256 (B "_sre.ascii_iscased")), (D P "unicode_iscased" 257 (B "_sre.unicode_iscased")), (D P "ascii_tolower" 258 (B "_sre.ascii_tolower")), (D P "unicode_tolower" 259 (B "_sre.unicode_tolower")), (D P "MAGIC" 261 (I 20230612 260)), (D P "CODESIZE" 263 (I 4 262)), (D P "MAXREPEAT" 265 (I 4294967295 264)), (D P "MAXGROUPS" 267 (I 1073741823 266)), (D P "copyright" 269 (S " SRE 2.2.2 Copyright (c) 1997-2002 by Secret Labs AB " 268))] 17) #[])
noncomputable def o12 (P : Params) : Obj := (Obj.mk (T "module") (Option.some 11) Data.plain #[])
noncomputable def o13 (P : Params) : Obj := (Obj.mk (T "dict") (Option.none) (Data.dict #[(D P "__module__" 189 (S "_frozen_importlib" 186)), (D P "__firstlineno__" 190 (I 971 187)), (D P "__doc__" 191 (B "_frozen_importlib.BuiltinImporter.__doc__:str#opaque")), (D P "_ORIGIN" 192 (S "built-in" 188)), (D P "find_spec" 193 (B "_frozen_importlib.BuiltinImporter.find_spec#opaque")), (D P "create_module" 194 (B "_frozen_importlib.BuiltinImporter.create_module#opaque")), (D P "exec_module" 195 (B "_frozen_importlib.BuiltinImporter.exec_module#opaque")), (D P "get_code" 196 (B "_frozen_importlib.BuiltinImporter.get_code#opaque")), (D P "get_source" 197 (B "_frozen_importlib.BuiltinImporter.get_source#opaque")), (D P "is_package" 198 (B "_frozen_importlib.BuiltinImporter.is_package#opaque")), (D P "load_module" 199 (B "_frozen_importlib.BuiltinImporter.load_module#opaque")), (D P "__static_attributes__" 200 (R 15)), (D P "__dict__" 202 (R 16)), (D P "__weakref__" 204 (R 17))] 14) #[])
noncomputable def o14 (P : Params) : Obj := (Obj.mk (T "type") (Option.none) (Data.cls (ClassData.mk (s "BuiltinImporter") [(T "object")] [(R 14), (T "object")] 13 (s "BuiltinImporter") Bool.true [] [] Bool.false (Option.none) Bool.false)) #[])
noncomputable def o15 (P : Params) : Obj := (Obj.mk (T "getset_descriptor") (Option.none) (Data.fields #[(S "__dict__" 201), (R 14), (B "function.__dict__"), (B "function.__dict__#set")]) #[])
noncomputable def o16 (P : Params) : Obj := (Obj.mk (T "getset_descriptor") (Option.none) (Data.fields #[(S "__weakref__" 203), (R 14), (B "ExceptionGroup.__weakref__"), V0]) #[])
noncomputable def o17 (P : Params) : Obj := (Obj.mk V0 (Option.none) (Data.seq #[(I 13 0), (S "\x06½\n__module__\x06º\x11_frozen_importlib\x06¾\x0f__firstlineno__\x04»\x00ϋ\x06¿\x07__doc__\t4_frozen_importlib.BuiltinImporter.__doc__:str#opaque\x06À\x07_ORIGIN\x06¼\x08built-in\x06Á\tfind_spec\t2_frozen_importlib.BuiltinImporter.find_spec#opaque\x06Â\x0dcreate_module\t6_frozen_importlib.BuiltinImporter.create_module#opaque\x06Ã\x0bexec_module\t4_frozen_importlib.BuiltinImporter.exec_module#opaque\x06Ä\x08get_code\t1_frozen_importlib.BuiltinImporter.get_code#opaque\x06Å\nget_source\t3_frozen_importlib.BuiltinImporter.get_source#opaque\x06Æ\nis_package\t3_frozen_importlib.BuiltinImporter.is_package#opaque\x06Ç\x0bload_module\t4_frozen_importlib.BuiltinImporter.load_module#opaque\x06È\x15__static_attributes__\x04\x00\x00\x0f\x06Ê\x08__dict__\x04\x00\x00\x10\x06Ì\x0b__weakref__\x04\x00\x00\x11" 0), (Value.bool Bool.true), (Value.bool Bool.true), (S "" 205), (I 21 0), (S "\x06ã\n__module__\x06Ù\x11_frozen_importlib\x06ä\x0f__firstlineno__\x04Ú\x00Ȳ\x06å\x07__doc__\t/_frozen_importlib.ModuleSpec.__doc__:str#opaque\x06æ\x08__init__\t,_frozen_importlib.ModuleSpec.__init__#opaque\x06ç\x08__repr__\t,_frozen_importlib.ModuleSpec.__repr__#opaque\x06è\x06__eq__\t*_frozen_importlib.ModuleSpec.__eq__#opaque\x06é\x06cached\t*_frozen_importlib.ModuleSpec.cached#opaque\x06ê\x06parent\t*_frozen_importlib.ModuleSpec.parent#opaque\x06ë\x0chas_location\t0_frozen_importlib.ModuleSpec.has_location#opaque\x06ì\x15__static_attributes__\x04\x00\x00\x17\x06î\x08__dict__\x04\x00\x00\x18\x06ð\x0b__weakref__\x04\x00\x00\x19\x06ñ\x08__hash__\x00" 0), (Value.bool Bool.true), (Value.bool Bool.true), (S "" 242)] 1) #[])
noncomputable def o18 (P : Params) : Obj := (Obj.mk (T "list") (Option.none) (Data.seq #[] 0) #[])
noncomputable def o19 (P : Params) : Obj := (Obj.mk (T "dict") (Option.none) (Data.dict #[(D P "name" 208 (S "_sre" 207)), (D P "loader" 209 (R 14)), (D P "origin" 210 (S "built-in" 184)), (D P "loader_state" 211 V0), (D P "submodule_search_locations" 212 V0), (D P "_uninitialized_submodules" 213 (R 19)), (D P "_set_fileattr" 214 (Value.bool Bool.false)), (D P "_cached" 215 V0), (D P "_initializing" 243 (Value.bool Bool.false))] 9) #[])
noncomputable def o20 (P : Params) : Obj := (Obj.mk (T "dict") (Option.none) (Data.dict #[(D P "__module__" 227 (S "_frozen_importlib" 217)), (D P "__firstlineno__" 228 (I 562 218)), (D P "__doc__" 229 (B "_frozen_importlib.ModuleSpec.__doc__:str#opaque")), (D P "__init__" 230 (B "_frozen_importlib.ModuleSpec.__init__#opaque")), (D P "__repr__" 231 (B "_frozen_importlib.ModuleSpec.__repr__#opaque")), (D P "__eq__" 232 (B "_frozen_importlib.ModuleSpec.__eq__#opaque")), (D P "cached" 233 (B "_frozen_importlib.ModuleSpec.cached#opaque")), (D P "parent" 234 (B "_frozen_importlib.ModuleSpec.parent#opaque")), (D P "has_location" 235 (B "_frozen_importlib.ModuleSpec.has_location#opaque")), (D P "__static_attributes__" 236 (R 23)), (D P "__dict__" 238 (R 24)), (D P "__weakref__" 240 (R 25)), (D P "__hash__" 241 V0)] 13) #[])
noncomputable def o21 (P : Params) : Obj := (Obj.mk (T "type") (Option.none) (Data.cls (ClassData.mk (s "ModuleSpec") [(T "object")] [(R 22), (T "object")] 21 (s "ModuleSpec") Bool.true [] [] Bool.false (Option.none) Bool.false)) #[])
noncomputable def o22 (P : Params) : Obj := (Obj.mk (T "tuple") (Option.none) (Data.seq #[(S "_cached" 219), (S "_set_fileattr" 220), (S "_uninitialized_submodules" 221), (S "loader" 222), (S "loader_state" 223), (S "name" 224), (S "origin" 225), (S "submodule_search_locations" 226)] 0) #[])
noncomputable def o23 (P : Params) : Obj := (Obj.mk (T "getset_descriptor") (Option.none) (Data.fields #[(S "__dict__" 237), (R 22), (B "function.__dict__"), (B "function.__dict__#set")]) #[])
noncomputable def o24 (P : Params) : Obj := (Obj.mk (T "getset_descriptor") (Option.none) (Data.fields #[(S "__weakref__" 239), (R 22), (B "ExceptionGroup.__weakref__"), V0]) #[])
noncomputable def o25 (P : Params) : Obj := (Obj.mk (R 22) (Option.some 20) Data.plain #[])
noncomputable def o26 (P : Params) : Obj := (Obj.mk V0 (Option.none) (Data.seq #[(I 11 0), (Value.str (Str.mk #[6, 247, 8, 95, 95, 110, 97, 109, 101, 95, 95, 6, 246, 4, 95, 115, 114, 101, 6, 248, 7, 95, 95, 100, 111, 99, 95, 95, 0, 6, 250, 11, 95, 95, 112, 97, 99, 107, 97, 103, 101, 95, 95, 6, 249, 0, 6, 251, 10, 95, 95, 108, 111, 97, 100, 101, 114, 95, 95, 4, 0, 0, 14, 6, 252, 8, 95, 95, 115, 112, 101, 99, 95, 95, 4, 0, 0, 26, 6, 253, 7, 99, 111, 109, 112, 105, 108, 101, 9, 12, 95, 115, 114, 101, 46, 99, 111, 109, 112, 105, 108, 101, 6, 254, 8, 116, 101, 109, 112, 108, 97, 116, 101, 9, 13, 95, 115, 114, 101, 46, 116, 101, 109, 112, 108, 97, 116, 101, 6, 255, 11, 103, 101, 116, 99, 111, 100, 101, 115, 105, 122, 101, 9, 16, 95, 115, 114, 101, 46, 103, 101, 116, 99, 111, 100, 101, 115, 105, 122, 101, 6, 256, 13, 97, 115, 99, 105, 105, 95, 105, 115, 99, 97, 115, 101, 100, 9, 18, 95, 115, 114, 101, 46, 97, 115, 99, 105, 105, 95, 105, 115, 99, 97, 115, 101, 100, 6, 257, 15, 117, 110, 105, 99, 111, 100, 101, 95, 105, 115, 99, 97, 115, 101, 100, 9, 20, 95, 115, 114, 101, 46, 117, 110, 105, 99, 111, 100, 101, 95, 105, 115, 99, 97, 115, 101, 100, 6, 258, 13, 97, 115, 99, 105, 105, 95, 116, 111, 108, 111, 119, 101, 114, 9, 18, 95, 115, 114, 101, 46, 97, 115, 99, 105, 105, 95, 116, 111, 108, 111, 119, 101, 114, 6, 259, 15, 117, 110, 105, 99, 111, 100, 101, 95, 116, 111, 108, 111, 119, 101, 114, 9, 20, 95, 115, 114, 101, 46, 117, 110, 105, 99, 111, 100, 101, 95, 116, 111, 108, 111, 119, 101, 114, 6, 261, 5, 77, 65, 71, 73, 67, 4, 260, 0, 20230612, 6, 263, 8, 67, 79, 68, 69, 83, 73, 90, 69, 4, 262, 0, 4, 6, 265, 9, 77, 65, 88, 82, 69, 80, 69, 65, 84, 4, 264, 0, 4294967295, 6, 267, 9, 77, 65, 88, 71, 82, 79, 85, 80, 83, 4, 266, 0, 1073741823, 6, 269, 9, 99, 111, 112, 121, 114, 105, 103, 104, 116, 6, 268, 53, 32, 83, 82, 69, 32, 50, 46, 50, 46, 50, 32, 67, 111, 112, 121, 114, 105, 103, 104, 116, 32, 40, 99, 41, 32, 49, 57, 57, 55, 45, 50, 48, 48, 50, 32, 98, 121, 32, 83, 101, 99, 114, 101, 116, 32, 76, 97, 98, 115, 32, 65, 66, 32]) 0), (Value.bool Bool.true), (Value.bool Bool.false), (S "_sre" 271)] 0) #[])
noncomputable def o27 (P : Params) : Obj := (Obj.mk (T "dict") (Option.none) (Data.dict #[(D P "__name__" 247 (S "_sre" 246)), (D P "__doc__" 248 V0), (D P "__package__" 250 (S "" 249)), (D P "__loader__" 251 (B "off-the-table:_sre.__loader__:shared#opaque")), (D P "__spec__" 252 (B "off-the-table:_sre.__spec__:shared#opaque")), (D P "compile" 253 (B "_sre.compile")), (D P "template" 254 (B "off-the-table:_sre.template:shared#opaque")), (D P "getcodesize" 255 (B "off-the-table:_sre.getcodesize:shared#opaque")), (D P "ascii_iscased" 256 (B "off-the-table:_sre.ascii_iscased:shared#opaque")), (D P "unicode_iscased" 257 (B "off-the-table:_sre.unicode_iscased:shared#opaque")), (D P "ascii_tolower" 258 (B "off-the-table:_sre.ascii_tolower:shared#opaque")), (D P "unicode_tolower" 259 (B "off-the-table:_sre.unicode_tolower:shared#opaque")), (D P "MAGIC" 261 (I 20230612 260)), (D P "CODESIZE" 263 (I 4 262)), (D P "MAXREPEAT" 265 (I 4294967295 264)), (D P "MAXGROUPS" 267 (I 1073741823 266)), (D P "copyright" 269 (S " SRE 2.2.2 Copyright (c) 1997-2002 by Secret Labs AB " 268))] 17) #[])
noncomputable def o28 (P : Params) : Obj := (Obj.mk (T "dict") (Option.none) (Data.dict #[(D P "__name__" 165 (S "law_in0210_01" 798)), (D P "__doc__" 166 V0), (D P "__package__" 167 V0), (D P "__loader__" 168 (B "__main__.__loader__#opaque")), (D P "__spec__" 169 V0), (D P "__annotations__" 170 (R 6)), (D P "__builtins__" 171 (R 4)), (D P "__file__" 173 (S "/claim/cut.py" 172)), (D P "__cached__" 174 V0), (D P "_sre" 275 (R 12)), (D P "_wall" 288 (R 38)), (D P "_twin_re_1" 326 (R 43)), (D P "_special_chars_map" 474 (R 45)), (D P "escape" 481 (R 55)), (D P "_translate" 502 (R 62)), (D P "compute_powers" 524 (R 70)), (D P "_str_to_int_inner" 535 (R 77)), (D P "int_from_string" 542 (R 84)), (D P "_DIV_LIMIT" 544 (I 4000 543)), (D P "_div2n1n" 561 (R 91)), (D P "_div3n2n" 575 (R 98)), (D P "_int2digits" 586 (R 105)), (D P "_digits2int" 597 (R 112)), (D P "_divmod_pos" 612 (R 119)), (D P "int_divmod" 622 (R 126)), (D P "_plain_name" 633 (R 133)), (D P "ABCMeta" 659 (R 150)), (D P "_ABCLike" 702 (R 183)), (D P "_abc_plain_meta" 709 (R 192)), (D P "fspath" 721 (R 199)), (D P "_check_arg_types" 734 (R 206)), (D P "_get_sep" 743 (R 213)), (D P "join" 754 (R 220)), (D P "splitroot" 763 (R 227)), (D P "basename" 772 (R 234)), (D P "dirname" 782 (R 241)), (D P "normpath" 797 (R 248)), (D P "_law_path" 811 (R 255)), (D P "_law_figures" 819 (R 262)), (D P "_law_text" 825 (R 267)), (D P "_law_patterns" 836 (R 274)), (D P "_law_means" 852 (R 281)), (D P "_law_sign" 862 (R 288)), (D P "_law_takes" 868 (R 293)), (D P "law" 874 (R 298))] 45) #[])
noncomputable def o29 (P : Params) : Obj := (Obj.mk V0 (Option.none) (Data.fields #[(I 2 0), (I 0 0), (R 37), (I 8 0), (I 0 0), (R 54), (I 15 0), (I 0 0), (R 61), (I 78 0), (I 0 0), (R 69), (I 119 0), (I 0 0), (R 76), (I 129 0), (I 0 0), (R 83), (I 133 0), (I 0 0), (R 90), (I 149 0), (I 0 0), (R 97), (I 159 0), (I 0 0), (R 104), (I 175 0), (I 0 0), (R 111), (I 184 0), (I 0 0), (R 118), (I 195 0), (I 0 0), (R 125), (I 207 0), (I 0 0), (R 132), (I 213 0), (I 0 0), (R 139), (I 218 0), (I 0 0), (R 158), (I 233 0), (I 0 0), (R 191), (I 237 0), (I 0 0), (R 198), (I 254 0), (I 0 0), (R 205), (I 266 0), (I 0 0), (R 212), (I 271 0), (I 0 0), (R 219), (I 288 0), (I 0 0), (R 226), (I 302 0), (I 0 0), (R 233), (I 307 0), (I 0 0), (R 240), (I 315 0), (I 0 0), (R 247), (I 341 0), (I 0 0), (R 254), (I 346 0), (I 0 0), (R 261), (I 352 0), (I 0 0), (R 266), (I 354 0), (I 0 0), (R 273), (I 358 0), (I 0 0), (R 280), (I 365 0), (I 0 0), (R 287), (I 373 0), (I 0 0), (R 292), (I 381 0), (I 0 0), (R 297)]) #[])
noncomputable def o30 (P : Params) : Obj := (Obj.mk (T "code") (Option.none) (Data.fields #[(S "<module>" 277), (S "<module>" 278), (S "/claim/cut.py" 279), (I 1 0), (I 0 0), (I 0 0), (I 0 0), (I 0 0), (R 28), (Value.bool Bool.false), (I 276 0), (R 29), V0, V0, V0, V0, (I 280 0), (I 1 0), (S "/claim/cut.py" 281)]) #[])
noncomputable def o31 (P : Params) : Obj := (Obj.mk (T "frame") (Option.none) Data.plain #[(Option.some (R 30)), (Option.some (R 3)), (Option.some (R 3)), (Option.none), (Option.some (S "__main__" 164)), (Option.none), (Option.some (R 0))])
noncomputable def o32 (P : Params) : Obj := (Obj.mk (T "tuple") (Option.none) (Data.seq #[(S "k" 285)] 0) #[])
noncomputable def o33 (P : Params) : Obj := (Obj.mk V0 (Option.none) (Data.func (FuncData.mk (s "_wall") (s "_wall") (fa (st 1)) (FuncBody.stmts (fb (st 1))) (fs (st 1)) 0 [] V0 V0 V0 V0 (Option.none) V0 V0 0)) #[])
noncomputable def o34 (P : Params) : Obj := (Obj.mk (T "code") (Option.none) (Data.fields #[(S "_wall" 282), (S "_wall" 283), (S "/claim/cut.py" 284), (I 2 0), (I 1 0), (I 0 0), (I 0 0), (I 3 0), (R 32), (Value.bool Bool.true), (I 276 0), (R 33), V0, (R 34), (R 35), (R 36), (I 286 0), (I 2 0), (S "/claim/cut.py" 287)]) #[])
noncomputable def o35 (P : Params) : Obj := (Obj.mk (T "function") (Option.none) (Data.func (FuncData.mk (s "_wall") (s "_wall") (fa (st 1)) (FuncBody.stmts (fb (st 1))) (fs (st 1)) 3 [] V0 V0 V0 (S "__main__" 164) (Option.none) (R 37) V0 0)) #[])
noncomputable def o36 (P : Params) : Obj := (Obj.mk (T "list") (Option.none) (Data.seq #[(I 14 292), (I 14 293), (I 4 294), (I 1 295), (I 1 296), (I 9 297), (I 0 298), (I 64 299), (I 0 300), (I 1342177280 301), (I 0 302), (I 0 303), (I 0 304), (I 0 305), (I 0 306), (I 17 307), (I 0 308), (I 13 309), (I 11 310), (I 9 311), (I 0 312), (I 64 313), (I 0 314), (I 1342177280 315), (I 0 316), (I 0 317), (I 0 318), (I 0 319), (I 0 320), (I 17 321), (I 1 322), (I 1 323)] 0) #[])
noncomputable def o37 (P : Params) : Obj := (Obj.mk (T "tuple") (Option.none) (Data.seq #[V0, V0] 0) #[])
noncomputable def o38 (P : Params) : Obj := (Obj.mk (T "tuple") (Option.none) (Data.seq #[(I 14 0), (I 14 0), (I 4 0), (I 1 0), (I 1 0), (I 9 0), (I 0 0), (I 64 0), (I 0 0), (I 1342177280 0), (I 0 0), (I 0 0), (I 0 0), (I 0 0), (I 0 0), (I 17 0), (I 0 0), (I 13 0), (I 11 0), (I 9 0), (I 0 0), (I 64 0), (I 0 0), (I 1342177280 0), (I 0 0), (I 0 0), (I 0 0), (I 0 0), (I 0 0), (I 17 0), (I 1 0), (I 1 0)] 0) #[])
noncomputable def o39 (P : Params) : Obj := (Obj.mk (T "re.Pattern") (Option.none) (Data.fields #[(S "([&~|])" 290), (I 32 325), (I 1 0), V0, V0, (R 42), (I 0 0)]) #[])
noncomputable def o40 (P : Params) : Obj := (Obj.mk (T "bytes_iterator") (Option.none) (Data.fields #[V0, (I 24 0)]) #[])
noncomputable def o41 (P : Params) : Obj := (Obj.mk (T "dict") (Option.none) (Data.dict #[(DictEntry.mk 40 (I 40 330) (S "\\(" 334)), (DictEntry.mk 41 (I 41 336) (S "\\)" 340)), (DictEntry.mk 91 (I 91 342) (S "\\[" 346)), (DictEntry.mk 93 (I 93 348) (S "\\]" 352)), (DictEntry.mk 123 (I 123 354) (S "\\{" 358)), (DictEntry.mk 125 (I 125 360) (S "\\}" 364)), (DictEntry.mk 63 (I 63 366) (S "\\?" 370)), (DictEntry.mk 42 (I 42 372) (S "\\*" 376)), (DictEntry.mk 43 (I 43 378) (S "\\+" 382)), (DictEntry.mk 45 (I 45 384) (S "\\-" 388)), (DictEntry.mk 124 (I 124 390) (S "\\|" 394)), (DictEntry.mk 94 (I 94 396) (S "\\^" 400)), (DictEntry.mk 36 (I 36 402) (S "\\$" 406)), (DictEntry.mk 92 (I 92 408) (S "\\\\" 412)), (DictEntry.mk 46 (I 46 414) (S "\\." 418)), (DictEntry.mk 38 (I 38 420) (S "\\&" 424)), (DictEntry.mk 126 (I 126 426) (S "\\~" 430)), (DictEntry.mk 35 (I 35 432) (S "\\#" 436)), (DictEntry.mk 32 (I 32 438) (S "\\ " 442)), (DictEntry.mk 9 (I 9 444) (S "\\\t" 448)), (DictEntry.mk 10 (I 10 450) (S "\\\n" 454)), (DictEntry.mk 13 (I 13 456) (S "\\\x0d" 460)), (DictEntry.mk 11 (I 11 462) (S "\\\x0b" 466)), (DictEntry.mk 12 (I 12 468) (S "\\\x0c" 472))] 24) #[])
noncomputable def o42 (P : Params) : Obj := (Obj.mk (T "dict") (Option.none) (Data.dict #[] 2) #[])
noncomputable def o43 (P : Params) : Obj := (Obj.mk (T "StopIteration") (Option.none) (Data.fields #[(R 47), V0, V0, V0, (Value.bool Bool.false), V0]) #[])
noncomputable def o44 (P : Params) : Obj := (Obj.mk (T "tuple") (Option.none) (Data.seq #[(S "pattern" 478)] 0) #[])
noncomputable def o45 (P : Params) : Obj := (Obj.mk V0 (Option.none) (Data.func (FuncData.mk (s "escape") (s "escape") (fa (st 5)) (FuncBody.stmts (fb (st 5))) (fs (st 5)) 0 [] V0 V0 V0 V0 (Option.none) V0 V0 0)) #[])
noncomputable def o46 (P : Params) : Obj := (Obj.mk (T "code") (Option.none) (Data.fields #[(S "escape" 475), (S "escape" 476), (S "/claim/cut.py" 477), (I 8 0), (I 1 0), (I 0 0), (I 0 0), (I 3 0), (R 49), (Value.bool Bool.true), (I 276 0), (R 50), V0, (R 51), (R 52), (R 53), (I 479 0), (I 8 0), (S "/claim/cut.py" 480)]) #[])
noncomputable def o47 (P : Params) : Obj := (Obj.mk (T "function") (Option.none) (Data.func (FuncData.mk (s "escape") (s "escape") (fa (st 5)) (FuncBody.stmts (fb (st 5))) (fs (st 5)) 3 [] V0 V0 V0 (S "re" 327) (Option.none) (R 54) V0 0)) #[])
noncomputable def o48 (P : Params) : Obj := (Obj.mk (T "tuple") (Option.none) (Data.seq #[(S "pat" 487), (S "STAR" 488), (S "QUESTION_MARK" 489), (S "res" 490), (S "add" 491), (S "i" 492), (S "n" 493), (S "c" 494), (S "j" 495), (S "stuff" 496), (S "chunks" 497), (S "k" 498), (S "chunk" 499)] 0) #[])
noncomputable def o49 (P : Params) : Obj := (Obj.mk V0 (Option.none) (Data.func (FuncData.mk (s "_translate") (s "_translate") (fa (st 7)) (FuncBody.stmts (fb (st 7))) (fs (st 7)) 0 [] V0 V0 V0 V0 (Option.none) V0 V0 0)) #[])
noncomputable def o50 (P : Params) : Obj := (Obj.mk (T "code") (Option.none) (Data.fields #[(S "_translate" 484), (S "_translate" 485), (S "/claim/cut.py" 486), (I 15 0), (I 3 0), (I 0 0), (I 0 0), (I 3 0), (R 56), (Value.bool Bool.true), (I 276 0), (R 57), V0, (R 58), (R 59), (R 60), (I 500 0), (I 15 0), (S "/claim/cut.py" 501)]) #[])
noncomputable def o51 (P : Params) : Obj := (Obj.mk (T "function") (Option.none) (Data.func (FuncData.mk (s "_translate") (s "_translate") (fa (st 7)) (FuncBody.stmts (fb (st 7))) (fs (st 7)) 3 [] V0 V0 V0 (S "cpy313.fnmatch" 482) (Option.none) (R 61) V0 0)) #[])
noncomputable def o52 (P : Params) : Obj := (Obj.mk (T "tuple") (Option.none) (Data.seq #[(Value.bool Bool.false)] 0) #[])
noncomputable def o53 (P : Params) : Obj := (Obj.mk (T "tuple") (Option.none) (Data.seq #[(S "w" 508), (S "base" 509), (S "more_than" 510), (S "show" 511), (S "seen" 512), (S "need" 513), (S "ws" 514), (S "lo" 515), (S "d" 516), (S "it" 517), (S "first" 518), (S "this" 519), (S "hi" 520), (S "sq" 521)] 0) #[])
noncomputable def o54 (P : Params) : Obj := (Obj.mk V0 (Option.none) (Data.func (FuncData.mk (s "compute_powers") (s "compute_powers") (fa (st 9)) (FuncBody.stmts (fb (st 9))) (fs (st 9)) 0 [] V0 V0 V0 V0 (Option.none) V0 V0 0)) #[])
noncomputable def o55 (P : Params) : Obj := (Obj.mk (T "code") (Option.none) (Data.fields #[(S "compute_powers" 505), (S "compute_powers" 506), (S "/claim/cut.py" 507), (I 78 0), (I 4 0), (I 0 0), (I 0 0), (I 3 0), (R 64), (Value.bool Bool.true), (I 276 0), (R 65), V0, (R 66), (R 67), (R 68), (I 522 0), (I 78 0), (S "/claim/cut.py" 523)]) #[])
noncomputable def o56 (P : Params) : Obj := (Obj.mk (T "function") (Option.none) (Data.func (FuncData.mk (s "compute_powers") (s "compute_powers") (fa (st 9)) (FuncBody.stmts (fb (st 9))) (fs (st 9)) 3 [] (R 63) V0 V0 (S "cpy313._pylong" 503) (Option.none) (R 69) V0 0)) #[])
noncomputable def o57 (P : Params) : Obj := (Obj.mk (T "tuple") (Option.none) (Data.seq #[(S "s" 528)] 0) #[])
noncomputable def o58 (P : Params) : Obj := (Obj.mk (T "tuple") (Option.none) (Data.seq #[(S "s" 529), (S "DIGLIM" 530), (S "inner" 531), (S "w5pow" 532)] 0) #[])
noncomputable def o59 (P : Params) : Obj := (Obj.mk V0 (Option.none) (Data.func (FuncData.mk (s "_str_to_int_inner") (s "_str_to_int_inner") (fa (st 10)) (FuncBody.stmts (fb (st 10))) (fs (st 10)) 0 [] V0 V0 V0 V0 (Option.none) V0 V0 0)) #[])
noncomputable def o60 (P : Params) : Obj := (Obj.mk (T "code") (Option.none) (Data.fields #[(S "_str_to_int_inner" 525), (S "_str_to_int_inner" 526), (S "/claim/cut.py" 527), (I 119 0), (I 1 0), (I 0 0), (I 0 0), (I 3 0), (R 71), (Value.bool Bool.true), (I 276 0), (R 72), V0, (R 73), (R 74), (R 75), (I 533 0), (I 119 0), (S "/claim/cut.py" 534)]) #[])
noncomputable def o61 (P : Params) : Obj := (Obj.mk (T "function") (Option.none) (Data.func (FuncData.mk (s "_str_to_int_inner") (s "_str_to_int_inner") (fa (st 10)) (FuncBody.stmts (fb (st 10))) (fs (st 10)) 3 [] V0 V0 V0 (S "cpy313._pylong" 503) (Option.none) (R 76) V0 0)) #[])
noncomputable def o62 (P : Params) : Obj := (Obj.mk (T "tuple") (Option.none) (Data.seq #[(S "s" 539)] 0) #[])
noncomputable def o63 (P : Params) : Obj := (Obj.mk V0 (Option.none) (Data.func (FuncData.mk (s "int_from_string") (s "int_from_string") (fa (st 11)) (FuncBody.stmts (fb (st 11))) (fs (st 11)) 0 [] V0 V0 V0 V0 (Option.none) V0 V0 0)) #[])
noncomputable def o64 (P : Params) : Obj := (Obj.mk (T "code") (Option.none) (Data.fields #[(S "int_from_string" 536), (S "int_from_string" 537), (S "/claim/cut.py" 538), (I 129 0), (I 1 0), (I 0 0), (I 0 0), (I 3 0), (R 78), (Value.bool Bool.true), (I 276 0), (R 79), V0, (R 80), (R 81), (R 82), (I 540 0), (I 129 0), (S "/claim/cut.py" 541)]) #[])
noncomputable def o65 (P : Params) : Obj := (Obj.mk (T "function") (Option.none) (Data.func (FuncData.mk (s "int_from_string") (s "int_from_string") (fa (st 11)) (FuncBody.stmts (fb (st 11))) (fs (st 11)) 3 [] V0 V0 V0 (S "cpy313._pylong" 503) (Option.none) (R 83) V0 0)) #[])
noncomputable def o66 (P : Params) : Obj := (Obj.mk (T "tuple") (Option.none) (Data.seq #[(S "a" 548), (S "b" 549), (S "n" 550), (S "pad" 551), (S "half_n" 552), (S "mask" 553), (S "b1" 554), (S "b2" 555), (S "q1" 556), (S "r" 557), (S "q2" 558)] 0) #[])
noncomputable def o67 (P : Params) : Obj := (Obj.mk V0 (Option.none) (Data.func (FuncData.mk (s "_div2n1n") (s "_div2n1n") (fa (st 13)) (FuncBody.stmts (fb (st 13))) (fs (st 13)) 0 [] V0 V0 V0 V0 (Option.none) V0 V0 0)) #[])
noncomputable def o68 (P : Params) : Obj := (Obj.mk (T "code") (Option.none) (Data.fields #[(S "_div2n1n" 545), (S "_div2n1n" 546), (S "/claim/cut.py" 547), (I 133 0), (I 3 0), (I 0 0), (I 0 0), (I 3 0), (R 85), (Value.bool Bool.true), (I 276 0), (R 86), V0, (R 87), (R 88), (R 89), (I 559 0), (I 133 0), (S "/claim/cut.py" 560)]) #[])
noncomputable def o69 (P : Params) : Obj := (Obj.mk (T "function") (Option.none) (Data.func (FuncData.mk (s "_div2n1n") (s "_div2n1n") (fa (st 13)) (FuncBody.stmts (fb (st 13))) (fs (st 13)) 3 [] V0 V0 V0 (S "cpy313._pylong" 503) (Option.none) (R 90) V0 0)) #[])
noncomputable def o70 (P : Params) : Obj := (Obj.mk (T "tuple") (Option.none) (Data.seq #[(S "a12" 565), (S "a3" 566), (S "b" 567), (S "b1" 568), (S "b2" 569), (S "n" 570), (S "q" 571), (S "r" 572)] 0) #[])
noncomputable def o71 (P : Params) : Obj := (Obj.mk V0 (Option.none) (Data.func (FuncData.mk (s "_div3n2n") (s "_div3n2n") (fa (st 14)) (FuncBody.stmts (fb (st 14))) (fs (st 14)) 0 [] V0 V0 V0 V0 (Option.none) V0 V0 0)) #[])
noncomputable def o72 (P : Params) : Obj := (Obj.mk (T "code") (Option.none) (Data.fields #[(S "_div3n2n" 562), (S "_div3n2n" 563), (S "/claim/cut.py" 564), (I 149 0), (I 6 0), (I 0 0), (I 0 0), (I 3 0), (R 92), (Value.bool Bool.true), (I 276 0), (R 93), V0, (R 94), (R 95), (R 96), (I 573 0), (I 149 0), (S "/claim/cut.py" 574)]) #[])
noncomputable def o73 (P : Params) : Obj := (Obj.mk (T "function") (Option.none) (Data.func (FuncData.mk (s "_div3n2n") (s "_div3n2n") (fa (st 14)) (FuncBody.stmts (fb (st 14))) (fs (st 14)) 3 [] V0 V0 V0 (S "cpy313._pylong" 503) (Option.none) (R 97) V0 0)) #[])
noncomputable def o74 (P : Params) : Obj := (Obj.mk (T "tuple") (Option.none) (Data.seq #[(S "a" 579), (S "n" 580)] 0) #[])
noncomputable def o75 (P : Params) : Obj := (Obj.mk (T "tuple") (Option.none) (Data.seq #[(S "n" 581), (S "a_digits" 582), (S "inner" 583)] 0) #[])
noncomputable def o76 (P : Params) : Obj := (Obj.mk V0 (Option.none) (Data.func (FuncData.mk (s "_int2digits") (s "_int2digits") (fa (st 15)) (FuncBody.stmts (fb (st 15))) (fs (st 15)) 0 [] V0 V0 V0 V0 (Option.none) V0 V0 0)) #[])
noncomputable def o77 (P : Params) : Obj := (Obj.mk (T "code") (Option.none) (Data.fields #[(S "_int2digits" 576), (S "_int2digits" 577), (S "/claim/cut.py" 578), (I 159 0), (I 2 0), (I 0 0), (I 0 0), (I 3 0), (R 99), (Value.bool Bool.true), (I 276 0), (R 100), V0, (R 101), (R 102), (R 103), (I 584 0), (I 159 0), (S "/claim/cut.py" 585)]) #[])
noncomputable def o78 (P : Params) : Obj := (Obj.mk (T "function") (Option.none) (Data.func (FuncData.mk (s "_int2digits") (s "_int2digits") (fa (st 15)) (FuncBody.stmts (fb (st 15))) (fs (st 15)) 3 [] V0 V0 V0 (S "cpy313._pylong" 503) (Option.none) (R 104) V0 0)) #[])
noncomputable def o79 (P : Params) : Obj := (Obj.mk (T "tuple") (Option.none) (Data.seq #[(S "digits" 590), (S "n" 591)] 0) #[])
noncomputable def o80 (P : Params) : Obj := (Obj.mk (T "tuple") (Option.none) (Data.seq #[(S "digits" 592), (S "n" 593), (S "inner" 594)] 0) #[])
noncomputable def o81 (P : Params) : Obj := (Obj.mk V0 (Option.none) (Data.func (FuncData.mk (s "_digits2int") (s "_digits2int") (fa (st 16)) (FuncBody.stmts (fb (st 16))) (fs (st 16)) 0 [] V0 V0 V0 V0 (Option.none) V0 V0 0)) #[])
noncomputable def o82 (P : Params) : Obj := (Obj.mk (T "code") (Option.none) (Data.fields #[(S "_digits2int" 587), (S "_digits2int" 588), (S "/claim/cut.py" 589), (I 175 0), (I 2 0), (I 0 0), (I 0 0), (I 3 0), (R 106), (Value.bool Bool.true), (I 276 0), (R 107), V0, (R 108), (R 109), (R 110), (I 595 0), (I 175 0), (S "/claim/cut.py" 596)]) #[])
noncomputable def o83 (P : Params) : Obj := (Obj.mk (T "function") (Option.none) (Data.func (FuncData.mk (s "_digits2int") (s "_digits2int") (fa (st 16)) (FuncBody.stmts (fb (st 16))) (fs (st 16)) 3 [] V0 V0 V0 (S "cpy313._pylong" 503) (Option.none) (R 111) V0 0)) #[])
noncomputable def o84 (P : Params) : Obj := (Obj.mk (T "tuple") (Option.none) (Data.seq #[(S "a" 601), (S "b" 602), (S "n" 603), (S "a_digits" 604), (S "r" 605), (S "q_digits" 606), (S "a_digit" 607), (S "q_digit" 608), (S "q" 609)] 0) #[])
noncomputable def o85 (P : Params) : Obj := (Obj.mk V0 (Option.none) (Data.func (FuncData.mk (s "_divmod_pos") (s "_divmod_pos") (fa (st 17)) (FuncBody.stmts (fb (st 17))) (fs (st 17)) 0 [] V0 V0 V0 V0 (Option.none) V0 V0 0)) #[])
noncomputable def o86 (P : Params) : Obj := (Obj.mk (T "code") (Option.none) (Data.fields #[(S "_divmod_pos" 598), (S "_divmod_pos" 599), (S "/claim/cut.py" 600), (I 184 0), (I 2 0), (I 0 0), (I 0 0), (I 3 0), (R 113), (Value.bool Bool.true), (I 276 0), (R 114), V0, (R 115), (R 116), (R 117), (I 610 0), (I 184 0), (S "/claim/cut.py" 611)]) #[])
noncomputable def o87 (P : Params) : Obj := (Obj.mk (T "function") (Option.none) (Data.func (FuncData.mk (s "_divmod_pos") (s "_divmod_pos") (fa (st 17)) (FuncBody.stmts (fb (st 17))) (fs (st 17)) 3 [] V0 V0 V0 (S "cpy313._pylong" 503) (Option.none) (R 118) V0 0)) #[])
noncomputable def o88 (P : Params) : Obj := (Obj.mk (T "tuple") (Option.none) (Data.seq #[(S "a" 616), (S "b" 617), (S "q" 618), (S "r" 619)] 0) #[])
noncomputable def o89 (P : Params) : Obj := (Obj.mk V0 (Option.none) (Data.func (FuncData.mk (s "int_divmod") (s "int_divmod") (fa (st 18)) (FuncBody.stmts (fb (st 18))) (fs (st 18)) 0 [] V0 V0 V0 V0 (Option.none) V0 V0 0)) #[])
noncomputable def o90 (P : Params) : Obj := (Obj.mk (T "code") (Option.none) (Data.fields #[(S "int_divmod" 613), (S "int_divmod" 614), (S "/claim/cut.py" 615), (I 195 0), (I 2 0), (I 0 0), (I 0 0), (I 3 0), (R 120), (Value.bool Bool.true), (I 276 0), (R 121), V0, (R 122), (R 123), (R 124), (I 620 0), (I 195 0), (S "/claim/cut.py" 621)]) #[])
noncomputable def o91 (P : Params) : Obj := (Obj.mk (T "function") (Option.none) (Data.func (FuncData.mk (s "int_divmod") (s "int_divmod") (fa (st 18)) (FuncBody.stmts (fb (st 18))) (fs (st 18)) 3 [] V0 V0 V0 (S "cpy313._pylong" 503) (Option.none) (R 125) V0 0)) #[])
noncomputable def o92 (P : Params) : Obj := (Obj.mk (T "tuple") (Option.none) (Data.seq #[(S "x" 628), (S "what" 629), (S "kind" 630)] 0) #[])
noncomputable def o93 (P : Params) : Obj := (Obj.mk V0 (Option.none) (Data.func (FuncData.mk (s "_plain_name") (s "_plain_name") (fa (st 20)) (FuncBody.stmts (fb (st 20))) (fs (st 20)) 0 [] V0 V0 V0 V0 (Option.none) V0 V0 0)) #[])
noncomputable def o94 (P : Params) : Obj := (Obj.mk (T "code") (Option.none) (Data.fields #[(S "_plain_name" 625), (S "_plain_name" 626), (S "/claim/cut.py" 627), (I 207 0), (I 2 0), (I 0 0), (I 0 0), (I 3 0), (R 127), (Value.bool Bool.true), (I 276 0), (R 128), V0, (R 129), (R 130), (R 131), (I 631 0), (I 207 0), (S "/claim/cut.py" 632)]) #[])
noncomputable def o95 (P : Params) : Obj := (Obj.mk (T "function") (Option.none) (Data.func (FuncData.mk (s "_plain_name") (s "_plain_name") (fa (st 20)) (FuncBody.stmts (fb (st 20))) (fs (st 20)) 3 [] V0 V0 V0 (S "os" 623) (Option.none) (R 132) V0 0)) #[])
noncomputable def o96 (P : Params) : Obj := (Obj.mk (T "tuple") (Option.none) (Data.seq #[(T "type")] 0) #[])
noncomputable def o97 (P : Params) : Obj := (Obj.mk (T "builtin_function_or_method") (Option.none) (Data.fields #[(B "type.__prepare__"), (T "type")]) #[])
noncomputable def o98 (P : Params) : Obj := (Obj.mk (T "dict") (Option.none) (Data.dict #[(D P "__module__" 643 (S "abc" 634)), (D P "__qualname__" 645 (S "ABCMeta" 644)), (D P "__firstlineno__" 647 (I 213 646)), (D P "register" 655 (R 147)), (D P "__static_attributes__" 656 (R 148))] 5) #[])
noncomputable def o99 (P : Params) : Obj := (Obj.mk V0 (Option.none) (Data.fields #[(I 215 0), (I 4 0), (R 146)]) #[])
noncomputable def o100 (P : Params) : Obj := (Obj.mk (T "code") (Option.none) (Data.fields #[(S "ABCMeta" 638), (S "ABCMeta" 639), (S "/claim/cut.py" 640), (I 213 0), (I 0 0), (I 0 0), (I 0 0), (I 0 0), (R 137), (Value.bool Bool.false), (I 276 0), (R 138), V0, V0, V0, V0, (I 641 0), (I 213 0), (S "/claim/cut.py" 642)]) #[])
noncomputable def o101 (P : Params) : Obj := (Obj.mk (T "frame") (Option.none) Data.plain #[(Option.some (R 139)), (Option.some (R 3)), (Option.some (R 136)), (Option.none), (Option.some (S "abc" 634)), (Option.none), (Option.some (R 0))])
noncomputable def o102 (P : Params) : Obj := (Obj.mk (T "tuple") (Option.none) (Data.seq #[(S "cls" 651), (S "subclass" 652)] 0) #[])
noncomputable def o103 (P : Params) : Obj := (Obj.mk V0 (Option.none) (Data.func (FuncData.mk (s "register") (s "ABCMeta.register") (fa (cs 22 0)) (FuncBody.stmts (fb (cs 22 0))) (fs (cs 24 2)) 0 [] V0 V0 V0 V0 (Option.none) V0 V0 0)) #[])
noncomputable def o104 (P : Params) : Obj := (Obj.mk (T "code") (Option.none) (Data.fields #[(S "register" 648), (S "ABCMeta.register" 649), (S "/claim/cut.py" 650), (I 215 0), (I 2 0), (I 0 0), (I 0 0), (I 3 0), (R 141), (Value.bool Bool.true), (I 276 0), (R 142), V0, (R 143), (R 144), (R 145), (I 653 0), (I 215 0), (S "/claim/cut.py" 654)]) #[])
noncomputable def o105 (P : Params) : Obj := (Obj.mk (T "function") (Option.none) (Data.func (FuncData.mk (s "register") (s "ABCMeta.register") (fa (cs 22 0)) (FuncBody.stmts (fb (cs 22 0))) (fs (cs 24 2)) 3 [] V0 V0 V0 (S "abc" 634) (Option.none) (R 146) V0 0)) #[])
noncomputable def o106 (P : Params) : Obj := (Obj.mk (T "dict") (Option.none) (Data.dict #[(D P "__module__" 643 (S "abc" 634)), (D P "__firstlineno__" 647 (I 213 646)), (D P "register" 655 (R 147)), (D P "__static_attributes__" 656 (R 148)), (D P "__doc__" 657 V0)] 2) #[])
noncomputable def o107 (P : Params) : Obj := (Obj.mk (T "type") (Option.none) (Data.cls (ClassData.mk (s "ABCMeta") [(T "type")] [(R 150), (T "type"), (T "object")] 149 (s "ABCMeta") Bool.true [] [(R 183)] Bool.false (Option.none) Bool.false)) #[(Option.some (R 134)), (Option.none), (Option.some (S "ABCMeta" 636)), (Option.some (S "ABCMeta" 644)), (Option.some (B "type.__new__")), (Option.some (Value.bool Bool.true))])
noncomputable def o108 (P : Params) : Obj := (Obj.mk (T "super") (Option.none) (Data.fields #[(R 150), (R 150), (R 150)]) #[])
noncomputable def o109 (P : Params) : Obj := (Obj.mk (T "builtin_function_or_method") (Option.none) (Data.fields #[(B "object.__init_subclass__"), (R 150)]) #[])
noncomputable def o110 (P : Params) : Obj := (Obj.mk (T "tuple") (Option.none) (Data.seq #[(R 150)] 0) #[])
noncomputable def o111 (P : Params) : Obj := (Obj.mk (T "dict") (Option.none) (Data.dict #[(D P "__module__" 669 (S "collections.abc" 660)), (D P "__qualname__" 671 (S "_ABCLike" 670)), (D P "__firstlineno__" 673 (I 218 672)), (D P "__instancecheck__" 682 (R 166)), (D P "__subclasscheck__" 690 (R 173)), (D P "register" 698 (R 180)), (D P "__static_attributes__" 699 (R 181))] 7) #[])
noncomputable def o112 (P : Params) : Obj := (Obj.mk V0 (Option.none) (Data.fields #[(I 220 0), (I 4 0), (R 165), (I 226 0), (I 4 0), (R 172), (I 231 0), (I 4 0), (R 179)]) #[])
noncomputable def o113 (P : Params) : Obj := (Obj.mk (T "code") (Option.none) (Data.fields #[(S "_ABCLike" 664), (S "_ABCLike" 665), (S "/claim/cut.py" 666), (I 218 0), (I 0 0), (I 0 0), (I 0 0), (I 0 0), (R 156), (Value.bool Bool.false), (I 276 0), (R 157), V0, V0, V0, V0, (I 667 0), (I 218 0), (S "/claim/cut.py" 668)]) #[])
noncomputable def o114 (P : Params) : Obj := (Obj.mk (T "frame") (Option.none) Data.plain #[(Option.some (R 158)), (Option.some (R 3)), (Option.some (R 155)), (Option.none), (Option.some (S "collections.abc" 660)), (Option.none), (Option.some (R 0))])
noncomputable def o115 (P : Params) : Obj := (Obj.mk (T "tuple") (Option.none) (Data.seq #[(S "cls" 677), (S "instance" 678), (S "C" 679)] 0) #[])
noncomputable def o116 (P : Params) : Obj := (Obj.mk V0 (Option.none) (Data.func (FuncData.mk (s "__instancecheck__") (s "_ABCLike.__instancecheck__") (fa (cs 24 0)) (FuncBody.stmts (fb (cs 24 0))) (fs (cs 24 0)) 0 [] V0 V0 V0 V0 (Option.none) V0 V0 0)) #[])
noncomputable def o117 (P : Params) : Obj := (Obj.mk (T "code") (Option.none) (Data.fields #[(S "__instancecheck__" 674), (S "_ABCLike.__instancecheck__" 675), (S "/claim/cut.py" 676), (I 220 0), (I 2 0), (I 0 0), (I 0 0), (I 3 0), (R 160), (Value.bool Bool.true), (I 276 0), (R 161), V0, (R 162), (R 163), (R 164), (I 680 0), (I 220 0), (S "/claim/cut.py" 681)]) #[])
noncomputable def o118 (P : Params) : Obj := (Obj.mk (T "function") (Option.none) (Data.func (FuncData.mk (s "__instancecheck__") (s "_ABCLike.__instancecheck__") (fa (cs 24 0)) (FuncBody.stmts (fb (cs 24 0))) (fs (cs 24 0)) 3 [] V0 V0 V0 (S "collections.abc" 660) (Option.none) (R 165) V0 0)) #[])
noncomputable def o119 (P : Params) : Obj := (Obj.mk (T "tuple") (Option.none) (Data.seq #[(S "cls" 686), (S "C" 687)] 0) #[])
noncomputable def o120 (P : Params) : Obj := (Obj.mk V0 (Option.none) (Data.func (FuncData.mk (s "__subclasscheck__") (s "_ABCLike.__subclasscheck__") (fa (cs 24 1)) (FuncBody.stmts (fb (cs 24 1))) (fs (cs 24 1)) 0 [] V0 V0 V0 V0 (Option.none) V0 V0 0)) #[])
noncomputable def o121 (P : Params) : Obj := (Obj.mk (T "code") (Option.none) (Data.fields #[(S "__subclasscheck__" 683), (S "_ABCLike.__subclasscheck__" 684), (S "/claim/cut.py" 685), (I 226 0), (I 2 0), (I 0 0), (I 0 0), (I 3 0), (R 167), (Value.bool Bool.true), (I 276 0), (R 168), V0, (R 169), (R 170), (R 171), (I 688 0), (I 226 0), (S "/claim/cut.py" 689)]) #[])
noncomputable def o122 (P : Params) : Obj := (Obj.mk (T "function") (Option.none) (Data.func (FuncData.mk (s "__subclasscheck__") (s "_ABCLike.__subclasscheck__") (fa (cs 24 1)) (FuncBody.stmts (fb (cs 24 1))) (fs (cs 24 1)) 3 [] V0 V0 V0 (S "collections.abc" 660) (Option.none) (R 172) V0 0)) #[])
noncomputable def o123 (P : Params) : Obj := (Obj.mk (T "tuple") (Option.none) (Data.seq #[(S "cls" 694), (S "subclass" 695)] 0) #[])
noncomputable def o124 (P : Params) : Obj := (Obj.mk V0 (Option.none) (Data.func (FuncData.mk (s "register") (s "_ABCLike.register") (fa (cs 24 2)) (FuncBody.stmts (fb (cs 24 2))) (fs (cs 24 2)) 0 [] V0 V0 V0 V0 (Option.none) V0 V0 0)) #[])
noncomputable def o125 (P : Params) : Obj := (Obj.mk (T "code") (Option.none) (Data.fields #[(S "register" 691), (S "_ABCLike.register" 692), (S "/claim/cut.py" 693), (I 231 0), (I 2 0), (I 0 0), (I 0 0), (I 3 0), (R 174), (Value.bool Bool.true), (I 276 0), (R 175), V0, (R 176), (R 177), (R 178), (I 696 0), (I 231 0), (S "/claim/cut.py" 697)]) #[])
noncomputable def o126 (P : Params) : Obj := (Obj.mk (T "function") (Option.none) (Data.func (FuncData.mk (s "register") (s "_ABCLike.register") (fa (cs 24 2)) (FuncBody.stmts (fb (cs 24 2))) (fs (cs 24 2)) 3 [] V0 V0 V0 (S "collections.abc" 660) (Option.none) (R 179) V0 0)) #[])
noncomputable def o127 (P : Params) : Obj := (Obj.mk (T "dict") (Option.none) (Data.dict #[(D P "__module__" 669 (S "collections.abc" 660)), (D P "__firstlineno__" 673 (I 218 672)), (D P "__instancecheck__" 682 (R 166)), (D P "__subclasscheck__" 690 (R 173)), (D P "register" 698 (R 180)), (D P "__static_attributes__" 699 (R 181)), (D P "__doc__" 700 V0)] 2) #[])
noncomputable def o128 (P : Params) : Obj := (Obj.mk (T "type") (Option.none) (Data.cls (ClassData.mk (s "_ABCLike") [(R 150)] [(R 183), (R 150), (T "type"), (T "object")] 182 (s "_ABCLike") Bool.true [] [] Bool.false (Option.none) Bool.false)) #[(Option.some (R 153)), (Option.none), (Option.some (S "_ABCLike" 662)), (Option.some (S "_ABCLike" 670)), (Option.some (B "type.__new__")), (Option.some (Value.bool Bool.true))])
noncomputable def o129 (P : Params) : Obj := (Obj.mk (T "super") (Option.none) (Data.fields #[(R 183), (R 183), (R 183)]) #[])
noncomputable def o130 (P : Params) : Obj := (Obj.mk (T "builtin_function_or_method") (Option.none) (Data.fields #[(B "object.__init_subclass__"), (R 183)]) #[])
noncomputable def o131 (P : Params) : Obj := (Obj.mk (T "tuple") (Option.none) (Data.seq #[(S "C" 706)] 0) #[])
noncomputable def o132 (P : Params) : Obj := (Obj.mk V0 (Option.none) (Data.func (FuncData.mk (s "_abc_plain_meta") (s "_abc_plain_meta") (fa (st 25)) (FuncBody.stmts (fb (st 25))) (fs (st 25)) 0 [] V0 V0 V0 V0 (Option.none) V0 V0 0)) #[])
noncomputable def o133 (P : Params) : Obj := (Obj.mk (T "code") (Option.none) (Data.fields #[(S "_abc_plain_meta" 703), (S "_abc_plain_meta" 704), (S "/claim/cut.py" 705), (I 233 0), (I 1 0), (I 0 0), (I 0 0), (I 3 0), (R 186), (Value.bool Bool.true), (I 276 0), (R 187), V0, (R 188), (R 189), (R 190), (I 707 0), (I 233 0), (S "/claim/cut.py" 708)]) #[])
noncomputable def o134 (P : Params) : Obj := (Obj.mk (T "function") (Option.none) (Data.func (FuncData.mk (s "_abc_plain_meta") (s "_abc_plain_meta") (fa (st 25)) (FuncBody.stmts (fb (st 25))) (fs (st 25)) 3 [] V0 V0 V0 (S "collections.abc" 660) (Option.none) (R 191) V0 0)) #[])
noncomputable def o135 (P : Params) : Obj := (Obj.mk (T "tuple") (Option.none) (Data.seq #[(S "path" 715), (S "kind" 716), (S "hook" 717), (S "given" 718)] 0) #[])
noncomputable def o136 (P : Params) : Obj := (Obj.mk V0 (Option.none) (Data.func (FuncData.mk (s "fspath") (s "fspath") (fa (st 27)) (FuncBody.stmts (fb (st 27))) (fs (st 27)) 0 [] V0 V0 V0 V0 (Option.none) V0 V0 0)) #[])
noncomputable def o137 (P : Params) : Obj := (Obj.mk (T "code") (Option.none) (Data.fields #[(S "fspath" 712), (S "fspath" 713), (S "/claim/cut.py" 714), (I 237 0), (I 1 0), (I 0 0), (I 0 0), (I 3 0), (R 193), (Value.bool Bool.true), (I 276 0), (R 194), V0, (R 195), (R 196), (R 197), (I 719 0), (I 237 0), (S "/claim/cut.py" 720)]) #[])
noncomputable def o138 (P : Params) : Obj := (Obj.mk (T "function") (Option.none) (Data.func (FuncData.mk (s "fspath") (s "fspath") (fa (st 27)) (FuncBody.stmts (fb (st 27))) (fs (st 27)) 3 [] V0 V0 V0 (S "os" 710) (Option.none) (R 198) V0 0)) #[])
noncomputable def o139 (P : Params) : Obj := (Obj.mk (T "tuple") (Option.none) (Data.seq #[(S "funcname" 727), (S "args" 728), (S "hasstr" 729), (S "hasbytes" 730), (S "s" 731)] 0) #[])
noncomputable def o140 (P : Params) : Obj := (Obj.mk V0 (Option.none) (Data.func (FuncData.mk (s "_check_arg_types") (s "_check_arg_types") (fa (st 29)) (FuncBody.stmts (fb (st 29))) (fs (st 29)) 0 [] V0 V0 V0 V0 (Option.none) V0 V0 0)) #[])
noncomputable def o141 (P : Params) : Obj := (Obj.mk (T "code") (Option.none) (Data.fields #[(S "_check_arg_types" 724), (S "_check_arg_types" 725), (S "/claim/cut.py" 726), (I 254 0), (I 1 0), (I 0 0), (I 0 0), (I 7 0), (R 200), (Value.bool Bool.true), (I 276 0), (R 201), V0, (R 202), (R 203), (R 204), (I 732 0), (I 254 0), (S "/claim/cut.py" 733)]) #[])
noncomputable def o142 (P : Params) : Obj := (Obj.mk (T "function") (Option.none) (Data.func (FuncData.mk (s "_check_arg_types") (s "_check_arg_types") (fa (st 29)) (FuncBody.stmts (fb (st 29))) (fs (st 29)) 3 [] V0 V0 V0 (S "cpy313.genericpath" 722) (Option.none) (R 205) V0 0)) #[])
noncomputable def o143 (P : Params) : Obj := (Obj.mk (T "tuple") (Option.none) (Data.seq #[(S "path" 740)] 0) #[])
noncomputable def o144 (P : Params) : Obj := (Obj.mk V0 (Option.none) (Data.func (FuncData.mk (s "_get_sep") (s "_get_sep") (fa (st 31)) (FuncBody.stmts (fb (st 31))) (fs (st 31)) 0 [] V0 V0 V0 V0 (Option.none) V0 V0 0)) #[])
noncomputable def o145 (P : Params) : Obj := (Obj.mk (T "code") (Option.none) (Data.fields #[(S "_get_sep" 737), (S "_get_sep" 738), (S "/claim/cut.py" 739), (I 266 0), (I 1 0), (I 0 0), (I 0 0), (I 3 0), (R 207), (Value.bool Bool.true), (I 276 0), (R 208), V0, (R 209), (R 210), (R 211), (I 741 0), (I 266 0), (S "/claim/cut.py" 742)]) #[])
noncomputable def o146 (P : Params) : Obj := (Obj.mk (T "function") (Option.none) (Data.func (FuncData.mk (s "_get_sep") (s "_get_sep") (fa (st 31)) (FuncBody.stmts (fb (st 31))) (fs (st 31)) 3 [] V0 V0 V0 (S "cpy313.posixpath" 735) (Option.none) (R 212) V0 0)) #[])
noncomputable def o147 (P : Params) : Obj := (Obj.mk (T "tuple") (Option.none) (Data.seq #[(S "a" 747), (S "p" 748), (S "sep" 749), (S "path" 750), (S "b" 751)] 0) #[])
noncomputable def o148 (P : Params) : Obj := (Obj.mk V0 (Option.none) (Data.func (FuncData.mk (s "join") (s "join") (fa (st 32)) (FuncBody.stmts (fb (st 32))) (fs (st 32)) 0 [] V0 V0 V0 V0 (Option.none) V0 V0 0)) #[])
noncomputable def o149 (P : Params) : Obj := (Obj.mk (T "code") (Option.none) (Data.fields #[(S "join" 744), (S "join" 745), (S "/claim/cut.py" 746), (I 271 0), (I 1 0), (I 0 0), (I 0 0), (I 7 0), (R 214), (Value.bool Bool.true), (I 276 0), (R 215), V0, (R 216), (R 217), (R 218), (I 752 0), (I 271 0), (S "/claim/cut.py" 753)]) #[])
noncomputable def o150 (P : Params) : Obj := (Obj.mk (T "function") (Option.none) (Data.func (FuncData.mk (s "join") (s "join") (fa (st 32)) (FuncBody.stmts (fb (st 32))) (fs (st 32)) 3 [] V0 V0 V0 (S "cpy313.posixpath" 735) (Option.none) (R 219) V0 0)) #[])
noncomputable def o151 (P : Params) : Obj := (Obj.mk (T "tuple") (Option.none) (Data.seq #[(S "p" 758), (S "sep" 759), (S "empty" 760)] 0) #[])
noncomputable def o152 (P : Params) : Obj := (Obj.mk V0 (Option.none) (Data.func (FuncData.mk (s "splitroot") (s "splitroot") (fa (st 33)) (FuncBody.stmts (fb (st 33))) (fs (st 33)) 0 [] V0 V0 V0 V0 (Option.none) V0 V0 0)) #[])
noncomputable def o153 (P : Params) : Obj := (Obj.mk (T "code") (Option.none) (Data.fields #[(S "splitroot" 755), (S "splitroot" 756), (S "/claim/cut.py" 757), (I 288 0), (I 1 0), (I 0 0), (I 0 0), (I 3 0), (R 221), (Value.bool Bool.true), (I 276 0), (R 222), V0, (R 223), (R 224), (R 225), (I 761 0), (I 288 0), (S "/claim/cut.py" 762)]) #[])
noncomputable def o154 (P : Params) : Obj := (Obj.mk (T "function") (Option.none) (Data.func (FuncData.mk (s "splitroot") (s "splitroot") (fa (st 33)) (FuncBody.stmts (fb (st 33))) (fs (st 33)) 3 [] V0 V0 V0 (S "cpy313.posixpath" 735) (Option.none) (R 226) V0 0)) #[])
noncomputable def o155 (P : Params) : Obj := (Obj.mk (T "tuple") (Option.none) (Data.seq #[(S "p" 767), (S "sep" 768), (S "i" 769)] 0) #[])
noncomputable def o156 (P : Params) : Obj := (Obj.mk V0 (Option.none) (Data.func (FuncData.mk (s "basename") (s "basename") (fa (st 34)) (FuncBody.stmts (fb (st 34))) (fs (st 34)) 0 [] V0 V0 V0 V0 (Option.none) V0 V0 0)) #[])
noncomputable def o157 (P : Params) : Obj := (Obj.mk (T "code") (Option.none) (Data.fields #[(S "basename" 764), (S "basename" 765), (S "/claim/cut.py" 766), (I 302 0), (I 1 0), (I 0 0), (I 0 0), (I 3 0), (R 228), (Value.bool Bool.true), (I 276 0), (R 229), V0, (R 230), (R 231), (R 232), (I 770 0), (I 302 0), (S "/claim/cut.py" 771)]) #[])
noncomputable def o158 (P : Params) : Obj := (Obj.mk (T "function") (Option.none) (Data.func (FuncData.mk (s "basename") (s "basename") (fa (st 34)) (FuncBody.stmts (fb (st 34))) (fs (st 34)) 3 [] V0 V0 V0 (S "cpy313.posixpath" 735) (Option.none) (R 233) V0 0)) #[])
noncomputable def o159 (P : Params) : Obj := (Obj.mk (T "tuple") (Option.none) (Data.seq #[(S "p" 776), (S "sep" 777), (S "i" 778), (S "head" 779)] 0) #[])
noncomputable def o160 (P : Params) : Obj := (Obj.mk V0 (Option.none) (Data.func (FuncData.mk (s "dirname") (s "dirname") (fa (st 35)) (FuncBody.stmts (fb (st 35))) (fs (st 35)) 0 [] V0 V0 V0 V0 (Option.none) V0 V0 0)) #[])
noncomputable def o161 (P : Params) : Obj := (Obj.mk (T "code") (Option.none) (Data.fields #[(S "dirname" 773), (S "dirname" 774), (S "/claim/cut.py" 775), (I 307 0), (I 1 0), (I 0 0), (I 0 0), (I 3 0), (R 235), (Value.bool Bool.true), (I 276 0), (R 236), V0, (R 237), (R 238), (R 239), (I 780 0), (I 307 0), (S "/claim/cut.py" 781)]) #[])
noncomputable def o162 (P : Params) : Obj := (Obj.mk (T "function") (Option.none) (Data.func (FuncData.mk (s "dirname") (s "dirname") (fa (st 35)) (FuncBody.stmts (fb (st 35))) (fs (st 35)) 3 [] V0 V0 V0 (S "cpy313.posixpath" 735) (Option.none) (R 240) V0 0)) #[])
noncomputable def o163 (P : Params) : Obj := (Obj.mk (T "tuple") (Option.none) (Data.seq #[(S "path" 786), (S "sep" 787), (S "dot" 788), (S "dotdot" 789), (S "_" 790), (S "initial_slashes" 791), (S "comps" 792), (S "new_comps" 793), (S "comp" 794)] 0) #[])
noncomputable def o164 (P : Params) : Obj := (Obj.mk V0 (Option.none) (Data.func (FuncData.mk (s "normpath") (s "normpath") (fa (st 36)) (FuncBody.stmts (fb (st 36))) (fs (st 36)) 0 [] V0 V0 V0 V0 (Option.none) V0 V0 0)) #[])
noncomputable def o165 (P : Params) : Obj := (Obj.mk (T "code") (Option.none) (Data.fields #[(S "normpath" 783), (S "normpath" 784), (S "/claim/cut.py" 785), (I 315 0), (I 1 0), (I 0 0), (I 0 0), (I 3 0), (R 242), (Value.bool Bool.true), (I 276 0), (R 243), V0, (R 244), (R 245), (R 246), (I 795 0), (I 315 0), (S "/claim/cut.py" 796)]) #[])
noncomputable def o166 (P : Params) : Obj := (Obj.mk (T "function") (Option.none) (Data.func (FuncData.mk (s "normpath") (s "normpath") (fa (st 36)) (FuncBody.stmts (fb (st 36))) (fs (st 36)) 3 [] V0 V0 V0 (S "cpy313.posixpath" 735) (Option.none) (R 247) V0 0)) #[])
noncomputable def o167 (P : Params) : Obj := (Obj.mk (T "tuple") (Option.none) (Data.seq #[(S "number" 803), (S "turn" 804), (S "quotient" 805), (S "rest" 806), (S "name" 807), (S "three" 808)] 0) #[])
noncomputable def o168 (P : Params) : Obj := (Obj.mk V0 (Option.none) (Data.func (FuncData.mk (s "_law_path") (s "_law_path") (fa (st 38)) (FuncBody.stmts (fb (st 38))) (fs (st 38)) 0 [] V0 V0 V0 V0 (Option.none) V0 V0 0)) #[])
noncomputable def o169 (P : Params) : Obj := (Obj.mk (T "code") (Option.none) (Data.fields #[(S "_law_path" 800), (S "_law_path" 801), (S "/claim/cut.py" 802), (I 341 0), (I 2 0), (I 0 0), (I 0 0), (I 3 0), (R 249), (Value.bool Bool.true), (I 276 0), (R 250), V0, (R 251), (R 252), (R 253), (I 809 0), (I 341 0), (S "/claim/cut.py" 810)]) #[])
noncomputable def o170 (P : Params) : Obj := (Obj.mk (T "function") (Option.none) (Data.func (FuncData.mk (s "_law_path") (s "_law_path") (fa (st 38)) (FuncBody.stmts (fb (st 38))) (fs (st 38)) 3 [] V0 V0 V0 (S "law_in0210_01" 798) (Option.none) (R 254) V0 0)) #[])
noncomputable def o171 (P : Params) : Obj := (Obj.mk (T "tuple") (Option.none) (Data.seq #[(S "number" 815), (S "row" 816)] 0) #[])
noncomputable def o172 (P : Params) : Obj := (Obj.mk V0 (Option.none) (Data.func (FuncData.mk (s "_law_figures") (s "_law_figures") (fa (st 39)) (FuncBody.stmts (fb (st 39))) (fs (st 39)) 0 [] V0 V0 V0 V0 (Option.none) V0 V0 0)) #[])
noncomputable def o173 (P : Params) : Obj := (Obj.mk (T "code") (Option.none) (Data.fields #[(S "_law_figures" 812), (S "_law_figures" 813), (S "/claim/cut.py" 814), (I 346 0), (I 1 0), (I 0 0), (I 0 0), (I 3 0), (R 256), (Value.bool Bool.true), (I 276 0), (R 257), V0, (R 258), (R 259), (R 260), (I 817 0), (I 346 0), (S "/claim/cut.py" 818)]) #[])
noncomputable def o174 (P : Params) : Obj := (Obj.mk (T "function") (Option.none) (Data.func (FuncData.mk (s "_law_figures") (s "_law_figures") (fa (st 39)) (FuncBody.stmts (fb (st 39))) (fs (st 39)) 3 [] V0 V0 V0 (S "law_in0210_01" 798) (Option.none) (R 261) V0 0)) #[])
noncomputable def o175 (P : Params) : Obj := (Obj.mk V0 (Option.none) (Data.func (FuncData.mk (s "_law_text") (s "_law_text") (fa (st 40)) (FuncBody.stmts (fb (st 40))) (fs (st 40)) 0 [] V0 V0 V0 V0 (Option.none) V0 V0 0)) #[])
noncomputable def o176 (P : Params) : Obj := (Obj.mk (T "code") (Option.none) (Data.fields #[(S "_law_text" 820), (S "_law_text" 821), (S "/claim/cut.py" 822), (I 352 0), (I 1 0), (I 0 0), (I 0 0), (I 3 0), (R 263), (Value.bool Bool.true), (I 276 0), (R 264), V0, V0, V0, (R 265), (I 823 0), (I 352 0), (S "/claim/cut.py" 824)]) #[])
noncomputable def o177 (P : Params) : Obj := (Obj.mk (T "function") (Option.none) (Data.func (FuncData.mk (s "_law_text") (s "_law_text") (fa (st 40)) (FuncBody.stmts (fb (st 40))) (fs (st 40)) 3 [] V0 V0 V0 (S "law_in0210_01" 798) (Option.none) (R 266) V0 0)) #[])
noncomputable def o178 (P : Params) : Obj := (Obj.mk (T "tuple") (Option.none) (Data.seq #[(S "p" 829), (S "q" 830), (S "r" 831), (S "begun" 832), (S "inner" 833)] 0) #[])
noncomputable def o179 (P : Params) : Obj := (Obj.mk V0 (Option.none) (Data.func (FuncData.mk (s "_law_patterns") (s "_law_patterns") (fa (st 41)) (FuncBody.stmts (fb (st 41))) (fs (st 41)) 0 [] V0 V0 V0 V0 (Option.none) V0 V0 0)) #[])
noncomputable def o180 (P : Params) : Obj := (Obj.mk (T "code") (Option.none) (Data.fields #[(S "_law_patterns" 826), (S "_law_patterns" 827), (S "/claim/cut.py" 828), (I 354 0), (I 3 0), (I 0 0), (I 0 0), (I 3 0), (R 268), (Value.bool Bool.true), (I 276 0), (R 269), V0, (R 270), (R 271), (R 272), (I 834 0), (I 354 0), (S "/claim/cut.py" 835)]) #[])
noncomputable def o181 (P : Params) : Obj := (Obj.mk (T "function") (Option.none) (Data.func (FuncData.mk (s "_law_patterns") (s "_law_patterns") (fa (st 41)) (FuncBody.stmts (fb (st 41))) (fs (st 41)) 3 [] V0 V0 V0 (S "law_in0210_01" 798) (Option.none) (R 273) V0 0)) #[])
noncomputable def o182 (P : Params) : Obj := (Obj.mk (T "tuple") (Option.none) (Data.seq #[(S "folder" 840), (S "name" 841), (S "figures" 842), (S "p" 843), (S "q" 844), (S "r" 845), (S "two" 846), (S "begun" 847), (S "inner" 848), (S "ends" 849)] 0) #[])
noncomputable def o183 (P : Params) : Obj := (Obj.mk V0 (Option.none) (Data.func (FuncData.mk (s "_law_means") (s "_law_means") (fa (st 42)) (FuncBody.stmts (fb (st 42))) (fs (st 42)) 0 [] V0 V0 V0 V0 (Option.none) V0 V0 0)) #[])
noncomputable def o184 (P : Params) : Obj := (Obj.mk (T "code") (Option.none) (Data.fields #[(S "_law_means" 837), (S "_law_means" 838), (S "/claim/cut.py" 839), (I 358 0), (I 3 0), (I 0 0), (I 0 0), (I 3 0), (R 275), (Value.bool Bool.true), (I 276 0), (R 276), V0, (R 277), (R 278), (R 279), (I 850 0), (I 358 0), (S "/claim/cut.py" 851)]) #[])
noncomputable def o185 (P : Params) : Obj := (Obj.mk (T "function") (Option.none) (Data.func (FuncData.mk (s "_law_means") (s "_law_means") (fa (st 42)) (FuncBody.stmts (fb (st 42))) (fs (st 42)) 3 [] V0 V0 V0 (S "law_in0210_01" 798) (Option.none) (R 280) V0 0)) #[])
noncomputable def o186 (P : Params) : Obj := (Obj.mk (T "tuple") (Option.none) (Data.seq #[(S "part" 856), (S "sign" 857), (S "rest" 858), (S "within" 859)] 0) #[])
noncomputable def o187 (P : Params) : Obj := (Obj.mk V0 (Option.none) (Data.func (FuncData.mk (s "_law_sign") (s "_law_sign") (fa (st 43)) (FuncBody.stmts (fb (st 43))) (fs (st 43)) 0 [] V0 V0 V0 V0 (Option.none) V0 V0 0)) #[])
noncomputable def o188 (P : Params) : Obj := (Obj.mk (T "code") (Option.none) (Data.fields #[(S "_law_sign" 853), (S "_law_sign" 854), (S "/claim/cut.py" 855), (I 365 0), (I 2 0), (I 0 0), (I 0 0), (I 3 0), (R 282), (Value.bool Bool.true), (I 276 0), (R 283), V0, (R 284), (R 285), (R 286), (I 860 0), (I 365 0), (S "/claim/cut.py" 861)]) #[])
noncomputable def o189 (P : Params) : Obj := (Obj.mk (T "function") (Option.none) (Data.func (FuncData.mk (s "_law_sign") (s "_law_sign") (fa (st 43)) (FuncBody.stmts (fb (st 43))) (fs (st 43)) 3 [] V0 V0 V0 (S "law_in0210_01" 798) (Option.none) (R 287) V0 0)) #[])
noncomputable def o190 (P : Params) : Obj := (Obj.mk V0 (Option.none) (Data.func (FuncData.mk (s "_law_takes") (s "_law_takes") (fa (st 44)) (FuncBody.stmts (fb (st 44))) (fs (st 44)) 0 [] V0 V0 V0 V0 (Option.none) V0 V0 0)) #[])
noncomputable def o191 (P : Params) : Obj := (Obj.mk (T "code") (Option.none) (Data.fields #[(S "_law_takes" 863), (S "_law_takes" 864), (S "/claim/cut.py" 865), (I 373 0), (I 3 0), (I 0 0), (I 0 0), (I 3 0), (R 289), (Value.bool Bool.true), (I 276 0), (R 290), V0, V0, V0, (R 291), (I 866 0), (I 373 0), (S "/claim/cut.py" 867)]) #[])
noncomputable def o192 (P : Params) : Obj := (Obj.mk (T "function") (Option.none) (Data.func (FuncData.mk (s "_law_takes") (s "_law_takes") (fa (st 44)) (FuncBody.stmts (fb (st 44))) (fs (st 44)) 3 [] V0 V0 V0 (S "law_in0210_01" 798) (Option.none) (R 292) V0 0)) #[])
noncomputable def o193 (P : Params) : Obj := (Obj.mk V0 (Option.none) (Data.func (FuncData.mk (s "law") (s "law") (fa (st 45)) (FuncBody.stmts (fb (st 45))) (fs (st 45)) 0 [] V0 V0 V0 V0 (Option.none) V0 V0 0)) #[])
noncomputable def o194 (P : Params) : Obj := (Obj.mk (T "code") (Option.none) (Data.fields #[(S "law" 869), (S "law" 870), (S "/claim/cut.py" 871), (I 381 0), (I 1 0), (I 0 0), (I 0 0), (I 3 0), (R 294), (Value.bool Bool.true), (I 276 0), (R 295), V0, V0, V0, (R 296), (I 872 0), (I 381 0), (S "/claim/cut.py" 873)]) #[])
noncomputable def o195 (P : Params) : Obj := (Obj.mk (T "function") (Option.none) (Data.func (FuncData.mk (s "law") (s "law") (fa (st 45)) (FuncBody.stmts (fb (st 45))) (fs (st 45)) 3 [] V0 V0 V0 (S "law_in0210_01" 798) (Option.none) (R 297) V0 0)) #[])
noncomputable def o196 (P : Params) : Obj := (Obj.mk (T "dict") (Option.none) (Data.dict #[(D P "__name__" 165 (S "re" 327)), (D P "__doc__" 166 V0), (D P "__package__" 167 V0), (D P "__loader__" 168 (B "__main__.__loader__#opaque")), (D P "__spec__" 169 V0), (D P "__annotations__" 170 (R 6)), (D P "__builtins__" 171 (R 4)), (D P "__file__" 173 (S "/claim/cut.py" 172)), (D P "__cached__" 174 V0), (D P "_sre" 275 (R 12)), (D P "_wall" 288 (R 38)), (D P "_twin_re_1" 326 (R 43)), (D P "_special_chars_map" 474 (R 45))] 13) #[])
noncomputable def o197 (P : Params) : Obj := (Obj.mk V0 (Option.none) (Data.fields #[(I 2 0), (I 0 0), (R 37)]) #[])
noncomputable def heE (P : Params) : Heap := Heap.mk (Array.mk [o0 P, o1 P, o2 P, o3 P, o4 P, o5 P, o6 P, o7 P, o8 P, o9 P, o10 P, o11 P, o12 P, o13 P, o14 P, o7 P, o15 P, o16 P, o17 P, o18 P, o19 P, o20 P, o21 P, o22 P, o23 P, o24 P, o25 P, o26 P]) (Life.mk [] [] [] 0 [] [] Bool.false #[] [] 0 Bool.false Bool.false Bool.false 0 [2000, 10, 10] Bool.false 0 Bool.true [] [] 0 Bool.false)
noncomputable def hp0 (P : Params) : Heap := Heap.mk (Array.mk [o0 P, o1 P, o2 P, o3 P, o4 P, o5 P, o6 P, o7 P, o8 P, o9 P, o10 P, o27 P, o12 P, o13 P, o14 P, o7 P, o15 P, o16 P, o17 P, o18 P, o19 P, o20 P, o21 P, o22 P, o23 P, o24 P, o25 P, o26 P]) (Life.mk [] [] [] 0 [] [] Bool.false #[] [] 0 Bool.false Bool.false Bool.false 0 [2000, 10, 10] Bool.false 0 Bool.true [] [] 0 Bool.false)
noncomputable def hp1 (P : Params) : Heap := Heap.mk (Array.mk [o0 P, o1 P, o2 P, o28 P, o4 P, o5 P, o6 P, o7 P, o8 P, o9 P, o10 P, o27 P, o12 P, o13 P, o14 P, o7 P, o15 P, o16 P, o17 P, o18 P, o19 P, o20 P, o21 P, o22 P, o23 P, o24 P, o25 P, o26 P, o7 P, o29 P, o30 P, o31 P, o7 P, o8 P, o32 P, o7 P, o33 P, o34 P, o35 P, o36 P, o6 P, o37 P, o38 P, o39 P, o40 P, o41 P, o42 P, o7 P, o43 P, o7 P, o8 P, o44 P, o7 P, o45 P, o46 P, o47 P, o7 P, o8 P, o48 P, o7 P, o49 P, o50 P, o51 P, o52 P, o7 P, o8 P, o53 P, o7 P, o54 P, o55 P, o56 P, o7 P, o8 P, o57 P, o58 P, o59 P, o60 P, o61 P, o7 P, o8 P, o62 P, o7 P, o63 P, o64 P, o65 P, o7 P, o8 P, o66 P, o7 P, o67 P, o68 P, o69 P, o7 P, o8 P, o70 P, o7 P, o71 P, o72 P, o73 P, o7 P, o8 P, o74 P, o75 P, o76 P, o77 P, o78 P, o7 P, o8 P, o79 P, o80 P, o81 P, o82 P, o83 P, o7 P, o8 P, o84 P, o7 P, o85 P, o86 P, o87 P, o7 P, o8 P, o88 P, o7 P, o89 P, o90 P, o91 P, o7 P, o8 P, o92 P, o7 P, o93 P, o94 P, o95 P, o96 P, o97 P, o98 P, o7 P, o99 P, o100 P, o101 P, o7 P, o8 P, o102 P, o7 P, o103 P, o104 P, o105 P, o7 P, o106 P, o107 P, o108 P, o109 P, o110 P, o97 P, o111 P, o7 P, o112 P, o113 P, o114 P, o7 P, o8 P, o115 P, o7 P, o116 P, o117 P, o118 P, o7 P, o8 P, o119 P, o7 P, o120 P, o121 P, o122 P, o7 P, o8 P, o123 P, o7 P, o124 P, o125 P, o126 P, o7 P, o127 P, o128 P, o129 P, o130 P, o7 P, o8 P, o131 P, o7 P, o132 P, o133 P, o134 P, o7 P, o8 P, o135 P, o7 P, o136 P, o137 P, o138 P, o7 P, o8 P, o139 P, o7 P, o140 P, o141 P, o142 P, o7 P, o8 P, o143 P, o7 P, o144 P, o145 P, o146 P, o7 P, o8 P, o147 P, o7 P, o148 P, o149 P, o150 P, o7 P, o8 P, o151 P, o7 P, o152 P, o153 P, o154 P, o7 P, o8 P, o155 P, o7 P, o156 P, o157 P, o158 P, o7 P, o8 P, o159 P, o7 P, o160 P, o161 P, o162 P, o7 P, o8 P, o163 P, o7 P, o164 P, o165 P, o166 P, o7 P, o8 P, o167 P, o7 P, o168 P, o169 P, o170 P, o7 P, o8 P, o171 P, o7 P, o172 P, o173 P, o174 P, o7 P, o8 P, o175 P, o176 P, o177 P, o7 P, o8 P, o178 P, o7 P, o179 P, o180 P, o181 P, o7 P, o8 P, o182 P, o7 P, o183 P, o184 P, o185 P, o7 P, o8 P, o186 P, o7 P, o187 P, o188 P, o189 P, o7 P, o8 P, o190 P, o191 P, o192 P, o7 P, o8 P, o193 P, o194 P, o195 P]) (Life.mk [] [] [] 0 [] [] Bool.false #[] [] 0 Bool.false Bool.false Bool.false 0 [2000, 10, 10] Bool.false 0 Bool.true [] [] 0 Bool.false)
noncomputable def hpA (P : Params) : Heap := Heap.mk (Array.mk [o0 P, o1 P, o2 P, o3 P, o4 P, o5 P, o6 P, o7 P, o8 P, o9 P, o10 P, o27 P, o12 P, o13 P, o14 P, o7 P, o15 P, o16 P, o17 P, o18 P, o19 P, o20 P, o21 P, o22 P, o23 P, o24 P, o25 P, o26 P, o7 P, o8 P, o30 P, o31 P]) (Life.mk [] [] [] 0 [] [] Bool.false #[] [] 0 Bool.false Bool.false Bool.false 0 [2000, 10, 10] Bool.false 0 Bool.true [] [] 0 Bool.false)
noncomputable def hpC (P : Params) : Heap := Heap.mk (Array.mk [o0 P, o1 P, o2 P, o196 P, o4 P, o5 P, o6 P, o7 P, o8 P, o9 P, o10 P, o27 P, o12 P, o13 P, o14 P, o7 P, o15 P, o16 P, o17 P, o18 P, o19 P, o20 P, o21 P, o22 P, o23 P, o24 P, o25 P, o26 P, o7 P, o197 P, o30 P, o31 P, o7 P, o8 P, o32 P, o7 P, o33 P, o34 P, o35 P, o36 P, o6 P, o37 P, o38 P, o39 P, o40 P, o41 P, o42 P, o7 P, o43 P]) (Life.mk [] [] [] 0 [] [] Bool.false #[] [] 0 Bool.false Bool.false Bool.false 0 [2000, 10, 10] Bool.false 0 Bool.true [] [] 0 Bool.false)
noncomputable def d0 : Drawn := ⟨0, 0, 0, 0⟩
theorem opn (w : World) : importEnds treeTable (opening pw) w 799 (start (opening pw)).1 (start (opening pw)).2 = some ⟨heE w.params, #[], d0, 276, (start (opening pw)).1.os⟩ := by
  rw [Fast.te10274390034422433532, Fast.te14364793385576792824, Fast.te1435165496053646825]
  kernel_rfl
theorem fen (w : World) : (fun os => (fenceModules? pw ⟨heE w.params, #[], d0, 276, os⟩).map (fun s => (s.heap, s.gens, s.drawn, s.toks))) = fun _ => some (hp0 w.params, #[], d0, 276) := by
  rw [Fast.te14289696077712309145]
  kernel_rfl
theorem size (w : World) : ((hp0 w.params).isNs mainGlobals && (#[] : Array GenState).size == 0, (hp0 w.params).objs.size, (hp0 w.params).nsMap mainGlobals "__annotations__") = (true, 28, some (R 6)) := by
  kernel_rfl
noncomputable def env : Env := { scope := pw.main.scope, locals := mainNs, globals := mainNs, cells := [], code := R 30, frame := some 31 }
noncomputable def bd : List Stmt := behindTheImports pw
noncomputable def cE : Code := .body bd env
noncomputable def p0 : Pos := ⟨0, 0, 0, 0⟩
noncomputable def pC : Pos := ⟨7, 0, 7, 18⟩
theorem pre (w : World) : (fun os => topGo treeTable pw w 28 (some (R 6)) 12 ⟨hp0 w.params, #[], d0, 276, os⟩ (topStub pw)) = fun os => some (⟨hpA w.params, #[], d0, 282, os⟩, ⟨denote treeTable cE, cE, p0, [topFrame p0]⟩) := by
  rw [Fast.te15667345088766844465, Fast.te11892475500146522536, Fast.te14364793385576792824]
  kernel_rfl
theorem blk (w : World) : (fun os => segRun treeTable pw w 28 (some (R 6)) 1 1 ⟨hpA w.params, #[], d0, 282, os⟩ (blockOf bd env cE p0 [topFrame p0])) = fun os => some (.next, ⟨hpA w.params, #[], d0, 282, os⟩, cE, p0) := by
  rw [Fast.te14374325043358763698, Fast.te14364793385576792824]
  kernel_rfl
theorem rest (w : World) : (fun os => topRun treeTable pw w 28 (some (R 6)) 1700 ⟨hpC w.params, #[], d0, 475, os⟩ (restOf (bd.drop 4) env cE pC [topFrame p0])) = fun os => some ⟨hp1 w.params, #[], d0, 875, os⟩ := by
  unfold restOf
  rw [Fast.te14082659384304107361, Fast.te14364793385576792824, Fast.te12563942051412417395]
  kernel_rfl
noncomputable def RunAt (w : World) : Prop := (fun os => segRun treeTable pw w 28 (some (R 6)) 1 1400 ⟨hpA w.params, #[], d0, 282, os⟩ (piecesOf (bd.take 4) env cE p0 [topFrame p0])) = fun os => some (.next, ⟨hpC w.params, #[], d0, 475, os⟩, cE, pC)
theorem runff (w : World) : RunAt ((w.withFollow "special-get-raises" false).withFollow "comprehension-iter-twice" false) := by
  unfold RunAt piecesOf
  rw [Fast.te14374325043358763698, Fast.te14364793385576792824, Fast.te12563942051412417395]
  kernel_rfl
theorem runft (w : World) : RunAt ((w.withFollow "special-get-raises" true).withFollow "comprehension-iter-twice" false) := by
  unfold RunAt piecesOf
  rw [Fast.te14374325043358763698, Fast.te14364793385576792824, Fast.te12563942051412417395]
  kernel_rfl
theorem runtf (w : World) : RunAt ((w.withFollow "special-get-raises" false).withFollow "comprehension-iter-twice" true) := by
  unfold RunAt piecesOf
  rw [Fast.te14374325043358763698, Fast.te14364793385576792824, Fast.te12563942051412417395]
  kernel_rfl
theorem runtt (w : World) : RunAt ((w.withFollow "special-get-raises" true).withFollow "comprehension-iter-twice" true) := by
  unfold RunAt piecesOf
  rw [Fast.te14374325043358763698, Fast.te14364793385576792824, Fast.te12563942051412417395]
  kernel_rfl
theorem run4 (w : World) : RunAt w := byRow2 "comprehension-iter-twice" (P := RunAt)
  (byRow2 "special-get-raises" (P := fun w => RunAt (w.withFollow "comprehension-iter-twice" false)) runff runft)
  (byRow2 "special-get-raises" (P := fun w => RunAt (w.withFollow "comprehension-iter-twice" true)) runtf runtt) w
theorem run (w : World) : (fun os => topRun treeTable pw w 28 (some (R 6)) 3113 ⟨hp0 w.params, #[], d0, 276, os⟩ (topStub pw)) = fun os => some ⟨hp1 w.params, #[], d0, 875, os⟩ := funext fun os => by
  refine go_top (n := 12) (N := 1 + (1400 + 1700)) (congrFun (pre w) os) (piece_block (n := 1) (N := 1400 + 1700) (congrFun (blk w) os) ?_)
  have e : restOf bd env cE p0 [topFrame p0] = restOf (bd.take 4 ++ bd.drop 4) env cE p0 [topFrame p0] := by rw [List.take_append_drop]
  rw [e]
  exact piece_app (congrFun (run4 w) os) (congrFun (rest w) os)
noncomputable abbrev lp : Program := PySem.Challenge.rw_in0210_01.row.prog
theorem w1 : sreFenced lp.main = true := by
  rw [Fast.te11788848310118352699]
  kernel_rfl
theorem w2 : ((moduleNames lp.main.body).isEmpty || lookedIntoSs (moduleNames lp.main.body) lp.main.body) = true := by
  rw [Fast.te9807087744658564304]
  kernel_rfl
theorem w3 : namesResolve lp = true := by
  rw [Fast.te8377067652309620493]
  kernel_rfl
theorem w4 : lp.boundNames.all (fun n => !worldNames.contains n) = true := by
  rw [Fast.te18344453789297297638]
  kernel_rfl
theorem w5 : noRoadLSs { strict := !(importedModules lp.main.body).all cThrough.contains, foot := none, bare := (["vars", "dir", "locals"] : List Str).filter (readsOut lp lp.main.body) } lp.main.body = true := by
  rw [Fast.te8326940854005059898, Fast.te13343964577679436407, Fast.te5923862056798008813]
  kernel_rfl
theorem w6 : (namesMeet lp lp.main.body fun _ n => attrL n) = true := by
  rw [Fast.te17119622794617984870]
  kernel_rfl
theorem w7 : looksOpen lp = true := by
  unfold looksOpen
  rw [w1, w2, w3, w4, w5, w6]
  rfl
theorem rws : OpenRow.wellSaid PySem.Challenge.rw_in0210_01.row = true := by
  unfold OpenRow.wellSaid OpenRow.partSaid
  rw [w7]
  kernel_rfl
theorem ws : OpenLaw.wellSaid PySem.Challenge.rw_in0210_01 = true := by
  unfold OpenLaw.wellSaid
  rw [rws, Fast.te8326940854005059898, Fast.te17119622794617984870, Fast.te6984425678791042302, Fast.te16286561074155671207, Fast.te8179353310426384613, Fast.te10792542408131684335]
  kernel_rfl
noncomputable def q : Program := view pw [0, 1, 2, 4, 5, 7, 10, 11, 12, 13, 14, 15, 16, 17, 18, 20, 22, 24, 25, 27, 29, 31, 32, 33, 34, 35, 36, 38, 39, 40, 41, 42, 43, 44, 45]
end H
example : True := by
  k_with_none
  k_with "o_law" => (refine holds_law Mine.H.ws ?_; intro said; clear said)
  k_with "o_head" => (refine' holds_open (q := Mine.H.q) (loose := [ofString "_twin_re_1", ofString "_special_chars_map", ofString "compute_powers"]) (Xt := fun s => xlAt Mine.H.q [] s && recOk (RowW.records PySem.Challenge.rw_in0210_01.row.toRowW) s) (XP := XL Mine.H.q []) (Yf := Hook.obs ?hk) (Ya := Hook.val ?hk) (YP := Hook.says ?hk) (N := 5980) ?hl (Hook.of ?hk) (Hook.keeps ?hk) (fun s e => xl_of s (Bool.and_eq_true_iff.mp e).1) XL.keeps ?b1 ?b2 ?b3 (fun s e => recFacts_of (Bool.and_eq_true_iff.mp e).2) ?b4 ?b5 ?b6 ?b7 ?hw ?hc)
  k_with "o_head2" => ((case b1 => rfl); (case b2 => rfl); (case b3 => rfl); (case b4 => rfl); (case b5 => exact Mine.H.rws); (case b6 => decide +kernel); (case b7 => exact ⟨rfl, rfl, rfl, rfl, rfl, by decide +kernel⟩); (case hl => exact LeftO.of_pieces (H₀ := Mine.H.hp0) (H₁ := Mine.H.hp1) (gs₀ := #[]) (gs₁ := #[]) (d₀ := Mine.H.d0) (d₁ := Mine.H.d0) (k₀ := 276) (k₁ := 875) (m₀ := 28) (ann := some (Mine.H.R 6)) (M := 3113) (open_cut (He := Mine.H.heE) (ge := #[]) (de := Mine.H.d0) (ke := 276) Mine.H.opn (by decide) Mine.H.fen) Mine.H.size (fun w os => congrFun (Mine.H.run w) os) (by decide) (fun w => by kernel_rfl)))
  trivial
local macro_rules | `(tactic| o_law) => `(tactic| k_extra "o_law")
local macro_rules | `(tactic| o_head $H) => `(tactic| (k_extra "o_head"; (case hk => exact $H); k_extra "o_head2"))
open_top hd for PySem.Challenge.rw_in0210_01
end Mine
set_option maxHeartbeats 200000
namespace Mine
namespace Lx
set_option genSizeOf false
set_option genInjectivity false
inductive E | v (i : Nat) | k (n : Nat) | a (x y : E) | s (x y : E) | g (x : E) | m (n : Nat) (x : E) | r (x : E) (n : Nat) | c (x : E)
noncomputable def nth {α : Type} (d : α) : List α → Nat → α :=
  List.rec (fun _ => d) fun x _ ih n => Nat.rec x (fun k _ => ih k) n
@[reducible] noncomputable def E.d (c : List Nat) (x : E) : Nat := E.rec (fun i => nth 0 c i) (fun n => n) (fun _ _ x y => x + y) (fun _ _ _ _ => 0) (fun _ _ => 0) (fun n _ x => n * x) (fun _ n x => x * n) (fun _ _ => 0) x
@[reducible] noncomputable def E.D (c : List Nat) (e : List Int) (x : E) : Int := E.rec (fun i => nth 0 e i) (fun n => (n : Int)) (fun _ _ x y => x + y) (fun _ _ x y => x - y) (fun _ x => -x) (fun n _ x => (n : Int) * x) (fun _ n x => x * (n : Int)) (fun x _ => ((x.d c : Nat) : Int)) x
noncomputable abbrev P := List Int × List Int × Int
noncomputable def dot (l x : List Int) : Int := List.rec (fun _ => 0) (fun a _ ih x => List.rec 0 (fun y s _ => a * y + ih s) x) l x
noncomputable def ad (l x : List Int) : List Int := List.rec (fun s => s) (fun a r ih x => List.rec (a :: r) (fun y s _ => (a + y) :: ih s) x) l x
noncomputable def sc (t : Int) (l : List Int) : List Int := l.map (t * ·)
noncomputable def un (i : Nat) : List Int := Nat.rec [1] (fun _ l => 0 :: l) i
noncomputable def nn (l : List Nat) : List Int := l.map (fun x : Nat => (x : Int))
noncomputable def Pd (c : List Nat) (e : List Int) (p : P) : Int := dot p.1 (nn c) + dot p.2.1 e + p.2.2
noncomputable def Pa (p q : P) : P := ⟨ad p.1 q.1, ad p.2.1 q.2.1, p.2.2 + q.2.2⟩
noncomputable def Ps (t : Int) (p : P) : P := ⟨sc t p.1, sc t p.2.1, t * p.2.2⟩
theorem dot_nil (s : List Int) : dot s [] = 0 := by cases s <;> rfl
theorem dot_ad (r : List Int) : ∀ s x, dot (ad r s) x = dot r x + dot s x := by
  induction r with
  | nil => exact fun s x => (Int.zero_add _).symm
  | cons a r ih =>
    intro s x
    cases x with
    | nil => rw [dot_nil, dot_nil, dot_nil]; rfl
    | cons y x =>
      cases s with
      | nil => exact (Int.add_zero _).symm
      | cons b s =>
        show (a + b) * y + dot (ad r s) x = a * y + dot r x + (b * y + dot s x)
        rw [ih, Int.add_mul, Int.add_assoc, Int.add_assoc, Int.add_left_comm (dot r x)]
theorem dot_sc (t : Int) (r : List Int) : ∀ x, dot (sc t r) x = t * dot r x := by
  induction r with
  | nil => exact fun x => (Int.mul_zero t).symm
  | cons a r ih =>
    intro x
    cases x with
    | nil => exact (Int.mul_zero t).symm
    | cons y x =>
      show t * a * y + dot (sc t r) x = t * (a * y + dot r x)
      rw [ih, Int.mul_add, Int.mul_assoc]
theorem dot_un (i : Nat) : ∀ x, dot (un i) x = nth 0 x i := by
  induction i with
  | zero =>
    intro x
    cases x with
    | nil => rfl
    | cons y x => exact (Int.add_zero _).trans (Int.one_mul y)
  | succ n ih =>
    intro x
    cases x with
    | nil => rfl
    | cons y x => exact ((congrArg (· + _) (Int.zero_mul y)).trans (Int.zero_add _)).trans (ih x)
theorem nth_nn (c : List Nat) : ∀ i, nth 0 (nn c) i = ((nth 0 c i : Nat) : Int) := by
  induction c with
  | nil => exact fun _ => rfl
  | cons x r ih => intro i; cases i with | zero => rfl | succ n => exact ih n
theorem Pd_a (c e p q) : Pd c e (Pa p q) = Pd c e p + Pd c e q := by
  show dot (ad p.1 q.1) _ + dot (ad p.2.1 q.2.1) _ + (p.2.2 + q.2.2) = _
  rw [dot_ad, dot_ad]; unfold Pd; ac_rfl
theorem Pd_s (c e t p) : Pd c e (Ps t p) = t * Pd c e p := by
  show dot (sc t p.1) _ + dot (sc t p.2.1) _ + t * p.2.2 = _
  rw [dot_sc, dot_sc, Pd, Int.mul_add, Int.mul_add]
noncomputable def E.p (x : E) : P := E.rec (fun i => (un i, [], 0)) (fun n => ([], [], (n : Int))) (fun _ _ x y => Pa x y) (fun _ _ _ _ => ([], [], 0)) (fun _ _ => ([], [], 0)) (fun n _ x => Ps n x) (fun _ n x => Ps n x) (fun _ _ => ([], [], 0)) x
noncomputable def E.q (x : E) : P := E.rec (fun i => ([], un i, 0)) (fun n => ([], [], (n : Int))) (fun _ _ x y => Pa x y) (fun _ _ x y => Pa x (Ps (-1) y)) (fun _ x => Ps (-1) x) (fun n _ x => Ps n x) (fun _ n x => Ps n x) (fun x _ => x.p) x
theorem nil_d (c e n) : Pd c e ([], [], n) = n := Int.zero_add n
theorem p_d (c e) (x : E) : Pd c e x.p = ((x.d c : Nat) : Int) := by
  induction x with
  | v i => show dot (un i) _ + 0 + 0 = _; rw [dot_un, nth_nn, Int.add_zero, Int.add_zero]
  | k n => exact nil_d c e n
  | a x y hx hy => show Pd c e (Pa x.p y.p) = _; rw [Pd_a, hx, hy]; rfl
  | s x y => rfl
  | g x => rfl
  | m n x hx => show Pd c e (Ps n x.p) = _; rw [Pd_s, hx]; rfl
  | r x n hx => show Pd c e (Ps n x.p) = _; rw [Pd_s, hx, Int.mul_comm]; rfl
  | c x => rfl
theorem q_d (c e) (x : E) : Pd c e x.q = x.D c e := by
  induction x with
  | v i => show 0 + dot (un i) _ + 0 = _; rw [dot_un, Int.zero_add, Int.add_zero]
  | k n => exact nil_d c e n
  | a x y hx hy => show Pd c e (Pa x.q y.q) = _; rw [Pd_a, hx, hy]
  | s x y hx hy => show Pd c e (Pa x.q (Ps (-1) y.q)) = _; rw [Pd_a, Pd_s, hx, hy, Int.neg_mul, Int.one_mul]; rfl
  | g x hx => show Pd c e (Ps (-1) x.q) = _; rw [Pd_s, hx, Int.neg_mul, Int.one_mul]
  | m n x hx => show Pd c e (Ps n x.q) = _; rw [Pd_s, hx]
  | r x n hx => show Pd c e (Ps n x.q) = _; rw [Pd_s, hx, Int.mul_comm]
  | c x => exact p_d c e x
noncomputable abbrev C := Nat × E × E
@[reducible] noncomputable def Cd (c : List Nat) (e : List Int) (x : C) : Prop :=
  Nat.rec (x.2.1.d c ≤ x.2.2.d c) (fun n _ => Nat.rec (x.2.1.d c < x.2.2.d c) (fun n _ => Nat.rec (x.2.1.d c = x.2.2.d c) (fun n _ => Nat.rec (¬ x.2.1.d c ≤ x.2.2.d c) (fun n _ => Nat.rec (¬ x.2.1.d c < x.2.2.d c) (fun n _ =>
  Nat.rec (x.2.1.D c e ≤ x.2.2.D c e) (fun n _ => Nat.rec (x.2.1.D c e < x.2.2.D c e) (fun n _ => Nat.rec (x.2.1.D c e = x.2.2.D c e) (fun n _ => Nat.rec (¬ x.2.1.D c e ≤ x.2.2.D c e) (fun _ _ => ¬ x.2.1.D c e < x.2.2.D c e) n) n) n) n) n) n) n) n) x.1
noncomputable def sb (x y : P) (k : Int) : P := Pa y (Pa (Ps (-1) x) ([], [], k))
theorem sb_d (c e x y k) : Pd c e (sb x y k) = Pd c e y - Pd c e x + k := by
  unfold sb; rw [Pd_a, Pd_a, Pd_s, nil_d, Int.neg_mul, Int.one_mul, ← Int.add_assoc]; rfl
noncomputable def Cp (x : C) : P :=
  Nat.rec (sb x.2.1.p x.2.2.p 0) (fun n _ => Nat.rec (sb x.2.1.p x.2.2.p (-1)) (fun n _ => Nat.rec (sb x.2.1.p x.2.2.p 0) (fun n _ => Nat.rec (sb x.2.2.p x.2.1.p (-1)) (fun n _ => Nat.rec (sb x.2.2.p x.2.1.p 0) (fun n _ =>
  Nat.rec (sb x.2.1.q x.2.2.q 0) (fun n _ => Nat.rec (sb x.2.1.q x.2.2.q (-1)) (fun n _ => Nat.rec (sb x.2.1.q x.2.2.q 0) (fun n _ => Nat.rec (sb x.2.2.q x.2.1.q (-1)) (fun _ _ => sb x.2.2.q x.2.1.q 0) n) n) n) n) n) n) n) n) x.1
noncomputable def isEq (x : C) : Bool := x.1 == 2 || x.1 == 7
theorem lt_d {x y : Int} (h : x < y) : 0 ≤ y - x + -1 := by omega
theorem le_d {x y : Int} (h : x ≤ y) : 0 ≤ y - x + 0 := by omega
theorem eq_d {x y : Int} (h : x = y) : y - x + 0 = 0 := by omega
theorem C_d (c e) : ∀ x : C, Cd c e x → 0 ≤ Pd c e (Cp x) ∧ (isEq x = true → Pd c e (Cp x) = 0)
  | (0, x, y), h => ⟨by show 0 ≤ Pd c e (sb x.p y.p 0); rw [sb_d, p_d, p_d]; exact le_d (Int.ofNat_le.mpr h), fun h => absurd h Bool.false_ne_true⟩
  | (1, x, y), h => ⟨by show 0 ≤ Pd c e (sb x.p y.p (-1)); rw [sb_d, p_d, p_d]; exact lt_d (Int.ofNat_lt.mpr h), fun h => absurd h Bool.false_ne_true⟩
  | (2, x, y), h => by
    have : Pd c e (sb x.p y.p 0) = 0 := by rw [sb_d, p_d, p_d]; exact eq_d (congrArg Nat.cast h)
    exact ⟨Int.le_of_eq this.symm, fun _ => this⟩
  | (3, x, y), h => ⟨by show 0 ≤ Pd c e (sb y.p x.p (-1)); rw [sb_d, p_d, p_d]; exact lt_d (Int.ofNat_lt.mpr (Nat.lt_of_not_le h)), fun h => absurd h Bool.false_ne_true⟩
  | (4, x, y), h => ⟨by show 0 ≤ Pd c e (sb y.p x.p 0); rw [sb_d, p_d, p_d]; exact le_d (Int.ofNat_le.mpr (Nat.le_of_not_lt h)), fun h => absurd h Bool.false_ne_true⟩
  | (5, x, y), h => ⟨by show 0 ≤ Pd c e (sb x.q y.q 0); rw [sb_d, q_d, q_d]; exact le_d h, fun h => absurd h Bool.false_ne_true⟩
  | (6, x, y), h => ⟨by show 0 ≤ Pd c e (sb x.q y.q (-1)); rw [sb_d, q_d, q_d]; exact lt_d h, fun h => absurd h Bool.false_ne_true⟩
  | (7, x, y), h => by
    have : Pd c e (sb x.q y.q 0) = 0 := by rw [sb_d, q_d, q_d]; exact eq_d h
    exact ⟨Int.le_of_eq this.symm, fun _ => this⟩
  | (8, x, y), h => ⟨by show 0 ≤ Pd c e (sb y.q x.q (-1)); rw [sb_d, q_d, q_d]; exact lt_d (Int.lt_of_not_ge h), fun h => absurd h Bool.false_ne_true⟩
  | (n+9, x, y), h => ⟨by show 0 ≤ Pd c e (sb y.q x.q 0); rw [sb_d, q_d, q_d]; exact le_d (Int.le_of_not_gt h), fun h => absurd h (by simp [isEq])⟩
noncomputable def le0 (l : List Int) : Bool := l.all fun a => decide (a ≤ 0)
noncomputable def eq0 (l : List Int) : Bool := l.all fun a => decide (a = 0)
noncomputable def tot (l : List (Int × C)) : P := l.foldr (fun x p => Pa (Ps x.1 (Cp x.2)) p) ([], [], 0)
noncomputable def oks (l : List (Int × C)) : Bool := l.all fun x => isEq x.2 || decide (0 ≤ x.1)
noncomputable def chk (l : List (Int × C)) : Bool := oks l && (le0 (tot l).1 && (eq0 (tot l).2.1 && decide ((tot l).2.2 < 0)))
@[reducible] noncomputable def imp (c : List Nat) (e : List Int) (l : List (Int × C)) : Prop := List.rec False (fun x _ ih => Cd c e x.2 → ih) l
noncomputable def al (c : List Nat) (e : List Int) (l : List (Int × C)) : Prop := List.rec True (fun x _ ih => Cd c e x.2 ∧ ih) l
theorem imp_of (c e l) : ¬ al c e l → imp c e l := by
  induction l with
  | nil => exact fun h => h True.intro
  | cons x r ih => exact fun h hx => ih fun hr => h ⟨hx, hr⟩
theorem le0_d (l : List Int) : ∀ c, le0 l = true → dot l (nn c) ≤ 0 := by
  induction l with
  | nil => exact fun _ _ => Int.le_refl 0
  | cons a r ih =>
    intro c h
    cases c with
    | nil => exact Int.le_refl 0
    | cons x c =>
      obtain ⟨h1, h2⟩ := Bool.and_eq_true_iff.mp h
      exact Int.add_nonpos (Int.mul_nonpos_of_nonpos_of_nonneg (of_decide_eq_true h1) (Int.natCast_nonneg x)) (ih c h2)
theorem eq0_d (l : List Int) : ∀ e, eq0 l = true → dot l e = 0 := by
  induction l with
  | nil => exact fun _ _ => rfl
  | cons a r ih =>
    intro e h
    cases e with
    | nil => rfl
    | cons x e =>
      obtain ⟨h1, h2⟩ := Bool.and_eq_true_iff.mp h
      show a * x + dot r e = 0
      rw [of_decide_eq_true h1, ih e h2, Int.zero_mul]; rfl
theorem tot_d (c e l) : oks l = true → al c e l → 0 ≤ Pd c e (tot l) := by
  induction l with
  | nil => exact fun _ _ => Int.le_refl 0
  | cons x r ih =>
    intro h ha
    obtain ⟨h1, h2⟩ := Bool.and_eq_true_iff.mp h
    have h3 := C_d c e x.2 ha.1
    show 0 ≤ Pd c e (Pa (Ps x.1 (Cp x.2)) (tot r))
    rw [Pd_a, Pd_s]
    refine Int.add_nonneg ?_ (ih h2 ha.2)
    cases hq : isEq x.2 with
    | true => rw [h3.2 hq, Int.mul_zero]; exact Int.le_refl 0
    | false =>
      replace h1 : (isEq x.2 || decide (0 ≤ x.1)) = true := h1
      rw [hq] at h1
      exact Int.mul_nonneg (of_decide_eq_true h1) h3.1
theorem S (c : List Nat) (e : List Int) (l : List (Int × C)) (h : chk l = true) : imp c e l := imp_of c e l fun ha => by
  obtain ⟨h0, h⟩ := Bool.and_eq_true_iff.mp h
  obtain ⟨h2, h⟩ := Bool.and_eq_true_iff.mp h
  obtain ⟨h3, h4⟩ := Bool.and_eq_true_iff.mp h
  have h1 := tot_d c e l h0 ha
  unfold Pd at h1
  rw [eq0_d _ e h3, Int.add_zero] at h1
  exact absurd (Int.add_neg_of_nonpos_of_neg (le0_d _ c h2) (of_decide_eq_true h4)) (Int.not_lt.mpr h1)
theorem bc {p : Prop} (h : ¬ p → False) : p := Classical.byContradiction h
theorem nnE {p : Prop} (h : ¬¬p) : p := Classical.byContradiction h
theorem nN {a b : Nat} (h : a ≠ b) : a < b ∨ b < a := Nat.lt_or_gt_of_ne h
theorem nI {a b : Int} (h : a ≠ b) : a < b ∨ b < a := Int.lt_or_gt_of_ne h
theorem lN {a b : Nat} (h : a ≤ b) (k : b ≤ a) : a = b := Nat.le_antisymm h k
theorem lI {a b : Int} (h : a ≤ b) (k : b ≤ a) : a = b := Int.le_antisymm h k
theorem im0 (a k : Int) (h : decide (k ≠ 0) = true) : 0 ≤ a % k := Int.emod_nonneg a (of_decide_eq_true h)
theorem im1 (a k : Int) (h : decide (0 < k) = true) : a % k < k := Int.emod_lt_of_pos a (of_decide_eq_true h)
theorem mdl (a k : Nat) (h : decide (0 < k) = true) : a % k < k := Nat.mod_lt a (of_decide_eq_true h)
theorem dam (a k : Nat) : k * (a / k) + a % k = a := Nat.div_add_mod a k
theorem mde (a k : Int) : k * (a / k) + a % k = a := Int.mul_ediv_add_emod a k
theorem sac {a b : Nat} (h : b ≤ a) : a - b + b = a := Nat.sub_add_cancel h
theorem sez {a b : Nat} (h : a ≤ b) : a - b = 0 := Nat.sub_eq_zero_of_le h
theorem nsl (a b : Nat) : a - b ≤ a := Nat.sub_le a b
theorem lsa (a b : Nat) : a ≤ a - b + b := Nat.sub_le_iff_le_add.mp (Nat.le_refl (a - b))
theorem tnn {a : Int} (h : 0 ≤ a) : ((a.toNat : Nat) : Int) = a := Int.toNat_of_nonneg h
theorem slt (a : Int) : a ≤ ((a.toNat : Nat) : Int) := Int.self_le_toNat a
theorem mel {a b : Nat} (h : a ≤ b) : min a b = a := Nat.min_eq_left h
theorem mer {a b : Nat} (h : b ≤ a) : min a b = b := Nat.min_eq_right h
theorem mll (a b : Nat) : min a b ≤ a := Nat.min_le_left a b
theorem mlr (a b : Nat) : min a b ≤ b := Nat.min_le_right a b
theorem xer {a b : Nat} (h : a ≤ b) : max a b = b := Nat.max_eq_right h
theorem xel {a b : Nat} (h : b ≤ a) : max a b = a := Nat.max_eq_left h
noncomputable abbrev v0 : E := .v 0
noncomputable abbrev v1 : E := .v 1
noncomputable abbrev v2 : E := .v 2
noncomputable abbrev v3 : E := .v 3
noncomputable abbrev v4 : E := .v 4
noncomputable abbrev v5 : E := .v 5
noncomputable abbrev v6 : E := .v 6
noncomputable abbrev v7 : E := .v 7
noncomputable abbrev v8 : E := .v 8
noncomputable abbrev v9 : E := .v 9
noncomputable abbrev n0 : E := .k 57
noncomputable abbrev n1 : E := .k 47
noncomputable abbrev n2 : E := .k 9
noncomputable abbrev n3 : E := .k 10
noncomputable abbrev n4 : E := .k 0
noncomputable abbrev n5 : E := .k 1
noncomputable abbrev n6 : E := .k 2
noncomputable abbrev n7 : E := .k 4
noncomputable abbrev n8 : E := .k 5
noncomputable abbrev n9 : E := .k 3
noncomputable abbrev n10 : E := .k 16777216
noncomputable abbrev n11 : E := .k 48
noncomputable abbrev n12 : E := .k 9223372036854775808
noncomputable abbrev n13 : E := .k 100
noncomputable abbrev n14 : E := .k 1000
noncomputable abbrev n15 : E := .k 5000
noncomputable abbrev n16 : E := .k 500
noncomputable abbrev n17 : E := .k 1073741824
noncomputable abbrev n18 : E := .k 72
noncomputable abbrev n19 : E := .k 107
theorem l0 (xa:Nat) (y0:47≤xa) (y1:xa≤57):(xa=47)∨((xa=48)∨((xa=49)∨((xa=50)∨((xa=51)∨((xa=52)∨((xa=53)∨((xa=54)∨((xa=55)∨((xa=56)∨(xa=57)))))))))):=(by decide:∀ x:Nat,x<58→47≤x→x=47∨x=48∨x=49∨x=50∨x=51∨x=52∨x=53∨x=54∨x=55∨x=56∨x=57) xa (bc (S [xa] [] [(1,0,v0,n0),(1,4,v0,.k 58)] rfl y1)) (bc (S [xa] [] [(1,0,n1,v0),(1,3,n1,v0)] rfl y0))
theorem l1 (xa:Nat) (y0:(xa:Int)≤9):(xa=0)∨((xa=1)∨((xa=2)∨((xa=3)∨((xa=4)∨((xa=5)∨((xa=6)∨((xa=7)∨((xa=8)∨(xa=9))))))))):=(by decide:∀ x:Nat,x<10→0≤x→x=0∨x=1∨x=2∨x=3∨x=4∨x=5∨x=6∨x=7∨x=8∨x=9) xa (bc (S [xa] [] [(1,5,.c v0,n2),(1,4,v0,n3)] rfl y0)) (bc (S [xa] [] [(1,3,n4,v0)] rfl))
theorem l2 (xa xb:Nat) (y0:xb<xa):xa+1-(xb+1)<xa+1-xb:=bc (S [xa+1-(xb+1),xb,xa,xa+1-xb] [] [(1,2,.a v0 (.a v1 n5),.a v2 n5),(-1,2,.a v3 v1,.a v2 n5),(1,4,v0,v3)] rfl (sac (bc (S [xb,xa] [] [(1,1,v0,v1),(1,3,.a v0 n5,.a v1 n5)] rfl y0))) (sac (bc (S [xb,xa] [] [(1,1,v0,v1),(1,3,v0,.a v1 n5)] rfl y0))))
theorem l3 (xa xb xc xd xe xf:Nat) (xp:Int) (y0:xa=xb) (y1:xp=(xc:Int)+1+((xd-0:Nat):Int)) (y2:xe=0+xd+2) (y3:xb=xc+(xe+xf)):xp<(xa:Int):=bc (S [xa,xb,xc,xd-0,xe,xd,xf] [xp] [(-1,2,v0,v1),(1,7,v0,.a (.a (.c v2) n5) (.c v3)),(-1,2,v4,.a (.a n4 v5) n6),(-1,2,v1,.a v2 (.a v4 v6)),(1,2,.a v3 n4,v5),(1,9,v0,.c v0)] rfl y0 y1 y2 y3 (sac (bc (S [xd] [] [(1,3,n4,v0)] rfl))))
theorem l4 (xa xb xc xd xe xf:Nat) (xp:Int) (y0:xb=xc) (y1:xp=(xa:Int)+4) (y2:xp=(xa:Int)+1+((xd-0:Nat):Int)) (y3:xe=0+xd+2) (y4:xc=xa+(xe+xf)):min (xa+4) xb=xa+4:=mel (bc fun k1=>S [xb,xc,xa,xd-0,xe,xd,xf] [xp] [(-1,2,v0,v1),(-1,7,v0,.a (.c v2) n7),(1,7,v0,.a (.a (.c v2) n5) (.c v3)),(-1,2,v4,.a (.a n4 v5) n6),(-1,2,v1,.a v2 (.a v4 v6)),(1,2,.a v3 n4,v5),(1,3,.a v2 n7,v0)] rfl y0 y1 y2 y3 y4 (sac (bc (S [xd] [] [(1,3,n4,v0)] rfl))) k1)
theorem l5 (xa xb xc xd xe xf:Nat) (xp:Int) (y0:xb=xc) (y1:xp=(xa:Int)+5) (y2:xp=(xa:Int)+1+1+((xd-0:Nat):Int)) (y3:xe=1+xd+2) (y4:xc=xa+(xe+xf)):min (xa+5) xb=xa+5:=mel (bc fun k1=>S [xb,xc,xa,xd-0,xe,xd,xf] [xp] [(-1,2,v0,v1),(-1,7,v0,.a (.c v2) n8),(1,7,v0,.a (.a (.a (.c v2) n5) n5) (.c v3)),(-1,2,v4,.a (.a n5 v5) n6),(-1,2,v1,.a v2 (.a v4 v6)),(1,2,.a v3 n4,v5),(1,3,.a v2 n8,v0)] rfl y0 y1 y2 y3 y4 (sac (bc (S [xd] [] [(1,3,n4,v0)] rfl))) k1)
theorem l6 (xa:Nat) :xa≤xa:=bc (S [xa] [] [(1,3,v0,v0)] rfl)
theorem l7 (xa xb xc xd xe xf xg:Nat) (y0:xb=1) (y1:(xc+xd≤xa)∧(xa≤xc+xd)) (y2:(xe≤6)∧((1≤xe)∧((xd=3)∧(xf≤11)))) (y3:(xe+xg≤xc)∧(xc≤xe+xg)) (y4:xg=1):xa+xb≤16777216:=bc (S [xb,xa,xc,xd,xe,xg] [] [(1,2,v0,n5),(1,0,v1,.a v2 v3),(1,0,v4,.k 6),(1,2,v3,n9),(1,0,v2,.a v4 v5),(1,2,v5,n5),(1,3,.a v1 v0,n10)] rfl y0 y1.2 y2.1 y2.2.2.1 y3.2 y4)
theorem l8 (xa xb:Nat) :-(xa:Int)≤(xb:Int)+1:=bc (S [xa,xb] [] [(1,8,.g (.c v0),.a (.c v1) n5)] rfl)
theorem l9 (xa:Nat) (y0:(48≤xa)∧(xa≤57)):(xa=48)∨((xa=49)∨((xa=50)∨((xa=51)∨((xa=52)∨((xa=53)∨((xa=54)∨((xa=55)∨((xa=56)∨(xa=57))))))))):=(by decide:∀ x:Nat,x<58→48≤x→x=48∨x=49∨x=50∨x=51∨x=52∨x=53∨x=54∨x=55∨x=56∨x=57) xa (bc (S [xa] [] [(1,0,v0,n0),(1,4,v0,.k 58)] rfl y0.2)) (bc (S [xa] [] [(1,0,n11,v0),(1,3,n11,v0)] rfl y0.1))
theorem l10 (xa:Nat) (y0:xa<10):(xa=0)∨((xa=1)∨((xa=2)∨((xa=3)∨((xa=4)∨((xa=5)∨((xa=6)∨((xa=7)∨((xa=8)∨(xa=9))))))))):=(by decide:∀ x:Nat,x<10→0≤x→x=0∨x=1∨x=2∨x=3∨x=4∨x=5∨x=6∨x=7∨x=8∨x=9) xa (bc (S [xa] [] [(1,1,v0,n3),(1,4,v0,n3)] rfl y0)) (bc (S [xa] [] [(1,3,n4,v0)] rfl))
theorem l11 (xa:Nat) :(xa%4=0)∨((xa%4=1)∨((xa%4=2)∨(xa%4=3))):=(by decide:∀ x:Nat,x<4→0≤x→x=0∨x=1∨x=2∨x=3) (xa%4) (bc (S [xa%4] [] [(1,1,v0,n7),(1,4,v0,n7)] rfl (mdl xa (4:Nat) rfl))) (bc (S [xa%4] [] [(1,3,n4,v0)] rfl))
theorem l12 (xa xb xc xd xe xf:Nat) (xp:Int) (y0:xa=xb) (y1:xp=(xc:Int)+1+1+((xd-0:Nat):Int)) (y2:xe=1+xd+2) (y3:xb=xc+(xe+xf)):xp<(xa:Int):=bc (S [xa,xb,xc,xd-0,xe,xd,xf] [xp] [(-1,2,v0,v1),(1,7,v0,.a (.a (.a (.c v2) n5) n5) (.c v3)),(-1,2,v4,.a (.a n5 v5) n6),(-1,2,v1,.a v2 (.a v4 v6)),(1,2,.a v3 n4,v5),(1,9,v0,.c v0)] rfl y0 y1 y2 y3 (sac (bc (S [xd] [] [(1,3,n4,v0)] rfl))))
theorem l13 (xa xb xc xd:Nat) (y0:xb=1) (y1:(xa≤6)∧((1≤xa)∧((xc=3)∧(xd≤11)))):xa+xb≤16777216:=bc (S [xb,xa] [] [(1,2,v0,n5),(1,0,v1,.k 6),(1,3,.a v1 v0,n10)] rfl y0 y1.1)
theorem l14 (xa xb xc xd xe xf:Nat) (xp:Int) (y0:xp=(xa:Int)+1+1+((xb-xc:Nat):Int)) (y1:xc≤xb) (y2:xd=1+xb+2) (y3:xe=xa+(xd+xf)) (y4:xe≤50):(-9223372036854775808≤xp)∧(xp<9223372036854775808):=⟨bc (S [xa,xb-xc] [xp] [(-1,7,v0,.a (.a (.a (.c v0) n5) n5) (.c v1)),(1,8,.g n12,v0)] rfl y0), bc (S [xa,xb-xc,xd,xb,xe,xf,xc] [xp] [(1,7,v0,.a (.a (.a (.c v0) n5) n5) (.c v1)),(-1,2,v2,.a (.a n5 v3) n6),(-1,2,v4,.a v0 (.a v2 v5)),(1,0,v4,.k 50),(1,2,.a v1 v6,v3),(1,9,v0,n12)] rfl y0 y2 y3 y4 (sac (bc (S [xc,xb] [] [(1,0,v0,v1),(1,3,v0,v1)] rfl y1))))⟩
theorem l15 (xa xb xc xd xe xf xg xi:Nat) (y0:(xa≤xb+xc)∧(xb+xc≤xa)) (y1:xc=1) (y2:(xb≤xd+xe)∧(xd+xe≤xb)) (y3:xd=1) (y4:(xf+xg≤xe)∧(xe≤xf+xg)) (y5:xf=1) (y6:xg=xi) (y7:xi+1≤100):xa≤16777216:=bc (S [xa,xb,xc,xd,xe,xf,xg,xi] [] [(1,0,v0,.a v1 v2),(1,2,v2,n5),(1,0,v1,.a v3 v4),(1,2,v3,n5),(1,0,v4,.a v5 v6),(1,2,v5,n5),(1,2,v6,v7),(1,0,.a v7 n5,n13),(1,3,v0,n10)] rfl y0.1 y1 y2.1 y3 y4.2 y5 y6 y7)
theorem l16 (xa:Nat) (xp:Int) (y0:xp=((xa%1000/100:Nat):Int)):(xp<1000000000)∧(0≤xp):=⟨bc (S [xa%1000/100,xa%1000,xa%1000%100] [xp] [(100,7,v0,.c v0),(1,1,v1,n14),(1,2,.a (.m 100 v0) v2,v1),(100,9,v0,.k 1000000000)] rfl y0 (mdl xa (1000:Nat) rfl) (dam (xa%1000) (100:Nat))), bc (S [xa%1000/100] [xp] [(-1,7,v0,.c v0),(1,8,n4,v0)] rfl y0)⟩
theorem l17 (xa xb:Nat) (y0:(xa=48+xb%1000/100)∨((xa=48+xb%1000/10%10)∨(xa=48+xb%1000%10))):(48≤xa)∧(xa≤57):=⟨y0.elim (fun j0=>bc (S [xa,xb%1000/100] [] [(-1,2,v0,.a n11 v1),(1,3,n11,v0)] rfl j0)) (fun j0=>j0.elim (fun j1=>bc (S [xa,xb%1000/10%10] [] [(-1,2,v0,.a n11 v1),(1,3,n11,v0)] rfl j1)) (fun j1=>bc (S [xa,xb%1000%10] [] [(-1,2,v0,.a n11 v1),(1,3,n11,v0)] rfl j1))), y0.elim (fun j0=>bc (S [xb%1000,xb%1000/100,xb%1000%100,xa] [] [(1,1,v0,n14),(1,2,.a (.m 100 v1) v2,v0),(100,2,v3,.a n11 v1),(100,3,v3,n0)] rfl (mdl xb (1000:Nat) rfl) (dam (xb%1000) (100:Nat)) j0)) (fun j0=>j0.elim (fun j1=>bc (S [xb%1000/10%10,xa] [] [(1,1,v0,n3),(1,2,v1,.a n11 v0),(1,3,v1,n0)] rfl (mdl (xb%1000/10) (10:Nat) rfl) j1)) (fun j1=>bc (S [xb%1000%10,xa] [] [(1,1,v0,n3),(1,2,v1,.a n11 v0),(1,3,v1,n0)] rfl (mdl (xb%1000) (10:Nat) rfl) j1)))⟩
theorem l18 (xa xb xc xd xe xf xg:Nat) (xp:Int) (y0:xa=xb) (y1:xb=xc+(xd+xe)) (y2:xd=1+xf+2) (y3:xp=(xc:Int)+1+1+((xf-(xg+1):Nat):Int)) (y4:xg+1≤xf):xp<(xa:Int):=bc (S [xa,xb,xc,xd,xe,xf,xf-(xg+1),xg] [xp] [(-1,2,v0,v1),(-1,2,v1,.a v2 (.a v3 v4)),(-1,2,v3,.a (.a n5 v5) n6),(1,7,v0,.a (.a (.a (.c v2) n5) n5) (.c v6)),(1,2,.a v6 (.a v7 n5),v5),(1,9,v0,.c v0)] rfl y0 y1 y2 y3 (sac (bc (S [xg,xf] [] [(1,0,.a v0 n5,v1),(1,3,.a v0 n5,v1)] rfl y4))))
theorem l19 (xa xb:Nat) :-(xa:Int)≤(xb:Int):=bc (S [xa,xb] [] [(1,8,.g (.c v0),.c v1)] rfl)
theorem l20 (xa:Nat) :xa+4<((xa:Int)+2+3).toNat:=bc (S [((xa:Int)+2+3).toNat,xa] [] [(-1,7,.c v0,.a (.a (.c v1) n6) n9),(1,4,.a v1 n7,v0)] rfl (tnn (bc (S [xa] [] [(1,8,n4,.a (.a (.c v0) n6) n9)] rfl))))
theorem l21 (xa xb xc xd xe:Nat) :((((xa:Int)=(xb:Int))∨((xc:Int)=(xb:Int)))∧((xd:Int)=(xe:Int)))↔(((xa=xb)∨(xc=xb))∧(xd=xe)):=⟨fun i0=>⟨bc fun k1=>i0.1.elim (fun j2=>(nN ((fun x=>k1 (.inl x)))).elim (fun j3=>S [xa,xb] [] [(-1,7,.c v0,.c v1),(1,1,v0,v1)] rfl j2 j3) (fun j3=>S [xa,xb] [] [(1,7,.c v0,.c v1),(1,1,v1,v0)] rfl j2 j3)) (fun j2=>(nN ((fun x=>k1 (.inl x)))).elim (fun j3=>(nN ((fun x=>k1 (.inr x)))).elim (fun j4=>S [xc,xb] [] [(-1,7,.c v0,.c v1),(1,1,v0,v1)] rfl j2 j4) (fun j4=>S [xc,xb] [] [(1,7,.c v0,.c v1),(1,1,v1,v0)] rfl j2 j4)) (fun j3=>(nN ((fun x=>k1 (.inr x)))).elim (fun j4=>S [xc,xb] [] [(-1,7,.c v0,.c v1),(1,1,v0,v1)] rfl j2 j4) (fun j4=>S [xc,xb] [] [(1,7,.c v0,.c v1),(1,1,v1,v0)] rfl j2 j4))), lN (bc (S [xd,xe] [] [(1,7,.c v0,.c v1),(1,3,v0,v1)] rfl i0.2)) (bc (S [xd,xe] [] [(-1,7,.c v0,.c v1),(1,3,v1,v0)] rfl i0.2))⟩,fun i0=>⟨bc fun k1=>i0.1.elim (fun j2=>(nI ((fun x=>k1 (.inl x)))).elim (fun j3=>S [xa,xb] [] [(-1,2,v0,v1),(1,6,.c v0,.c v1)] rfl j2 j3) (fun j3=>S [xa,xb] [] [(1,2,v0,v1),(1,6,.c v1,.c v0)] rfl j2 j3)) (fun j2=>(nI ((fun x=>k1 (.inl x)))).elim (fun j3=>(nI ((fun x=>k1 (.inr x)))).elim (fun j4=>S [xc,xb] [] [(-1,2,v0,v1),(1,6,.c v0,.c v1)] rfl j2 j4) (fun j4=>S [xc,xb] [] [(1,2,v0,v1),(1,6,.c v1,.c v0)] rfl j2 j4)) (fun j3=>(nI ((fun x=>k1 (.inr x)))).elim (fun j4=>S [xc,xb] [] [(-1,2,v0,v1),(1,6,.c v0,.c v1)] rfl j2 j4) (fun j4=>S [xc,xb] [] [(1,2,v0,v1),(1,6,.c v1,.c v0)] rfl j2 j4))), lI (bc (S [xd,xe] [] [(1,2,v0,v1),(1,8,.c v0,.c v1)] rfl i0.2)) (bc (S [xd,xe] [] [(-1,2,v0,v1),(1,8,.c v1,.c v0)] rfl i0.2))⟩⟩
theorem l22 (xa xb xc xd xe:Nat) (xp:Int) (y0:xp=(xa:Int)+4) (y1:xp=(xa:Int)+1+((xc-0:Nat):Int)) (y2:xd=0+xc+2) (y3:xb=xa+(xd+xe)):xa+4≤xb:=bc (S [xa,xc-0,xd,xc,xb,xe] [xp] [(-1,7,v0,.a (.c v0) n7),(1,7,v0,.a (.a (.c v0) n5) (.c v1)),(-1,2,v2,.a (.a n4 v3) n6),(-1,2,v4,.a v0 (.a v2 v5)),(1,2,.a v1 n4,v3),(1,3,.a v0 n7,v4)] rfl y0 y1 y2 y3 (sac (bc (S [xc] [] [(1,3,n4,v0)] rfl))))
theorem l23 (xa xb xc xd xe:Nat) :((1<(xa:Int))∧((¬((xb:Int)=(xc:Int)))∧(¬((xd:Int)=(xe:Int)))))↔((1<xa)∧((¬(xb=xc))∧(¬(xd=xe)))):=⟨fun i0=>⟨bc (S [xa] [] [(1,6,n5,.c v0),(1,4,n5,v0)] rfl i0.1), ⟨fun i1=>(nI (i0.2.1)).elim (fun j2=>S [xb,xc] [] [(-1,2,v0,v1),(1,6,.c v0,.c v1)] rfl i1 j2) (fun j2=>S [xb,xc] [] [(1,2,v0,v1),(1,6,.c v1,.c v0)] rfl i1 j2), fun i1=>(nI (i0.2.1)).elim (fun j2=>(nI (i0.2.2)).elim (fun j3=>S [xd,xe] [] [(-1,2,v0,v1),(1,6,.c v0,.c v1)] rfl i1 j3) (fun j3=>S [xd,xe] [] [(1,2,v0,v1),(1,6,.c v1,.c v0)] rfl i1 j3)) (fun j2=>(nI (i0.2.2)).elim (fun j3=>S [xd,xe] [] [(-1,2,v0,v1),(1,6,.c v0,.c v1)] rfl i1 j3) (fun j3=>S [xd,xe] [] [(1,2,v0,v1),(1,6,.c v1,.c v0)] rfl i1 j3))⟩⟩,fun i0=>⟨bc (S [xa] [] [(1,1,n5,v0),(1,9,n5,.c v0)] rfl i0.1), ⟨fun i1=>(nN (i0.2.1)).elim (fun j2=>S [xb,xc] [] [(-1,7,.c v0,.c v1),(1,1,v0,v1)] rfl i1 j2) (fun j2=>S [xb,xc] [] [(1,7,.c v0,.c v1),(1,1,v1,v0)] rfl i1 j2), fun i1=>(nN (i0.2.1)).elim (fun j2=>(nN (i0.2.2)).elim (fun j3=>S [xd,xe] [] [(-1,7,.c v0,.c v1),(1,1,v0,v1)] rfl i1 j3) (fun j3=>S [xd,xe] [] [(1,7,.c v0,.c v1),(1,1,v1,v0)] rfl i1 j3)) (fun j2=>(nN (i0.2.2)).elim (fun j3=>S [xd,xe] [] [(-1,7,.c v0,.c v1),(1,1,v0,v1)] rfl i1 j3) (fun j3=>S [xd,xe] [] [(1,7,.c v0,.c v1),(1,1,v1,v0)] rfl i1 j3))⟩⟩⟩
theorem l24 (xa xb:Nat) (y0:xb<xa):xa-xb=xa-xb-1+1:=lN (bc (S [xa-xb-1,xa-xb] [] [(-1,2,.a v0 n5,v1),(1,3,v1,.a v0 n5)] rfl (sac (bc fun k1=>S [xb,xa,xa-xb] [] [(1,1,v0,v1),(-1,2,.a v2 v0,v1),(1,3,n5,v2)] rfl y0 (sac (bc (S [xb,xa] [] [(1,1,v0,v1),(1,3,v0,v1)] rfl y0))) k1)))) (bc (S [xa-xb-1,xa-xb] [] [(1,2,.a v0 n5,v1),(1,3,.a v0 n5,v1)] rfl (sac (bc fun k1=>S [xb,xa,xa-xb] [] [(1,1,v0,v1),(-1,2,.a v2 v0,v1),(1,3,n5,v2)] rfl y0 (sac (bc (S [xb,xa] [] [(1,1,v0,v1),(1,3,v0,v1)] rfl y0))) k1))))
theorem l25 (xa xb xc:Nat) (y0:xc+1≤xb):(xa:Int)+1+((xb-(xc+1):Nat):Int)+1=(xa:Int)+1+((xb-xc:Nat):Int):=lI (bc (S [xb-(xc+1),xc,xb,xb-xc,xa] [] [(1,2,.a v0 (.a v1 n5),v2),(-1,2,.a v3 v1,v2),(1,8,.a (.a (.a (.c v4) n5) (.c v0)) n5,.a (.a (.c v4) n5) (.c v3))] rfl (sac (bc (S [xc,xb] [] [(1,0,.a v0 n5,v1),(1,3,.a v0 n5,v1)] rfl y0))) (sac (bc (S [xc,xb] [] [(1,0,.a v0 n5,v1),(1,3,v0,v1)] rfl y0))))) (bc (S [xb-(xc+1),xc,xb,xb-xc,xa] [] [(-1,2,.a v0 (.a v1 n5),v2),(1,2,.a v3 v1,v2),(1,8,.a (.a (.c v4) n5) (.c v3),.a (.a (.a (.c v4) n5) (.c v0)) n5)] rfl (sac (bc (S [xc,xb] [] [(1,0,.a v0 n5,v1),(1,3,.a v0 n5,v1)] rfl y0))) (sac (bc (S [xc,xb] [] [(1,0,.a v0 n5,v1),(1,3,v0,v1)] rfl y0)))))
theorem l26 (xa xb:Nat) (y0:xb<xa):xa+1-xb=xa-xb+1:=lN (bc (S [xa+1-xb,xb,xa,xa-xb] [] [(1,2,.a v0 v1,.a v2 n5),(-1,2,.a v3 v1,v2),(1,3,v0,.a v3 n5)] rfl (sac (bc (S [xb,xa] [] [(1,1,v0,v1),(1,3,v0,.a v1 n5)] rfl y0))) (sac (bc (S [xb,xa] [] [(1,1,v0,v1),(1,3,v0,v1)] rfl y0))))) (bc (S [xa+1-xb,xb,xa,xa-xb] [] [(-1,2,.a v0 v1,.a v2 n5),(1,2,.a v3 v1,v2),(1,3,.a v3 n5,v0)] rfl (sac (bc (S [xb,xa] [] [(1,1,v0,v1),(1,3,v0,.a v1 n5)] rfl y0))) (sac (bc (S [xb,xa] [] [(1,1,v0,v1),(1,3,v0,v1)] rfl y0)))))
theorem l27 (xa xb xc xd xe:Nat) (y0:xb=xc) (y1:xc=xa+(xd+xe)) (y2:1≤xd):(xa:Int)<(xb:Int):=bc (S [xb,xc,xa,xd,xe] [] [(-1,2,v0,v1),(-1,2,v1,.a v2 (.a v3 v4)),(1,0,n5,v3),(1,9,.c v2,.c v0)] rfl y0 y1 y2)
theorem l28 (xa:Nat) :min (min 6 xa-3) (xa-3)+(0+1+1+1-((min (min 6 xa-3) (xa-3):Nat):Int).toNat)≤16777216:=bc (S [min 6 xa,min 6 xa-3,min (min 6 xa-3) (xa-3),0+1+1+1-((min (min 6 xa-3) (xa-3):Nat):Int).toNat] [] [(1,0,v0,.k 6),(1,0,v1,v0),(1,0,v2,v1),(1,0,v3,.a (.a (.a n4 n5) n5) n5),(1,3,.a v2 v3,n10)] rfl (mll (6:Nat) xa) (nsl (min 6 xa) (3:Nat)) (mll (min 6 xa-3) (xa-3)) (nsl (0+1+1+1:Nat) ((min (min 6 xa-3) (xa-3):Nat):Int).toNat))
theorem l29 (xa xb xc xd:Nat) (y0:xa=47) (y1:(xa=48+xb)∨((xa=48+xc)∨(xa=48+xd))):False:=y1.elim (fun j0=>S [xa,xb] [] [(1,2,v0,n1),(-1,2,v0,.a n11 v1)] rfl y0 j0) (fun j0=>j0.elim (fun j1=>S [xa,xc] [] [(1,2,v0,n1),(-1,2,v0,.a n11 v1)] rfl y0 j1) (fun j1=>S [xa,xd] [] [(1,2,v0,n1),(-1,2,v0,.a n11 v1)] rfl y0 j1))
theorem l30 (xa xb:Nat) :((xa:Int)+(xb:Int)).toNat=xa+xb:=lN (bc (S [((xa:Int)+(xb:Int)).toNat,xa,xb] [] [(1,7,.c v0,.a (.c v1) (.c v2)),(1,3,v0,.a v1 v2)] rfl (tnn (bc (S [xa,xb] [] [(1,8,n4,.a (.c v0) (.c v1))] rfl))))) (bc (S [((xa:Int)+(xb:Int)).toNat,xa,xb] [] [(-1,7,.c v0,.a (.c v1) (.c v2)),(1,3,.a v1 v2,v0)] rfl (tnn (bc (S [xa,xb] [] [(1,8,n4,.a (.c v0) (.c v1))] rfl)))))
theorem l31 (xa:Nat) (y0:0<xa):(-1+(xa:Int)).toNat=xa-1:=lN (bc (S [(-1+(xa:Int)).toNat,xa,xa-1] [] [(1,7,.c v0,.a (.g n5) (.c v1)),(-1,2,.a v2 n5,v1),(1,3,v0,v2)] rfl (tnn (bc (S [xa] [] [(1,1,n4,v0),(1,8,n4,.a (.g n5) (.c v0))] rfl y0))) (sac (bc (S [xa] [] [(1,1,n4,v0),(1,3,n5,v0)] rfl y0))))) (bc (S [(-1+(xa:Int)).toNat,xa,xa-1] [] [(-1,7,.c v0,.a (.g n5) (.c v1)),(1,2,.a v2 n5,v1),(1,3,v2,v0)] rfl (tnn (bc (S [xa] [] [(1,1,n4,v0),(1,8,n4,.a (.g n5) (.c v0))] rfl y0))) (sac (bc (S [xa] [] [(1,1,n4,v0),(1,3,n5,v0)] rfl y0)))))
theorem l32 (xa:Nat) :(xa:Int)+3=((((xa:Int)+1+2).toNat:Nat):Int):=lI (bc (S [((xa:Int)+1+2).toNat,xa] [] [(-1,7,.c v0,.a (.a (.c v1) n5) n6),(1,8,.a (.c v1) n9,.c v0)] rfl (tnn (bc (S [xa] [] [(1,8,n4,.a (.a (.c v0) n5) n6)] rfl))))) (bc (S [((xa:Int)+1+2).toNat,xa] [] [(1,7,.c v0,.a (.a (.c v1) n5) n6),(1,8,.c v0,.a (.c v1) n9)] rfl (tnn (bc (S [xa] [] [(1,8,n4,.a (.a (.c v0) n5) n6)] rfl)))))
theorem l33 (xp:Int) :xp%1000000000=(((xp%1000000000).toNat:Nat):Int):=lI (bc (S [(xp%1000000000).toNat] [xp%1000000000] [(-1,7,.c v0,v0),(1,8,v0,.c v0)] rfl (tnn (bc (S [] [xp%1000000000] [(1,5,n4,v0),(1,8,n4,v0)] rfl (im0 xp (1000000000:Int) rfl)))))) (bc (S [(xp%1000000000).toNat] [xp%1000000000] [(1,7,.c v0,v0),(1,8,.c v0,v0)] rfl (tnn (bc (S [] [xp%1000000000] [(1,5,n4,v0),(1,8,n4,v0)] rfl (im0 xp (1000000000:Int) rfl))))))
theorem l34 (xa:Nat) (y0:(48≤xa)∧(xa≤57)):xa=48+(xa-48):=lN (bc (S [xa-48,xa] [] [(-1,2,.a v0 n11,v1),(1,3,v1,.a n11 v0)] rfl (sac (bc (S [xa] [] [(1,0,n11,v0),(1,3,n11,v0)] rfl y0.1))))) (bc (S [xa-48,xa] [] [(1,2,.a v0 n11,v1),(1,3,.a n11 v0,v1)] rfl (sac (bc (S [xa] [] [(1,0,n11,v0),(1,3,n11,v0)] rfl y0.1)))))
theorem l35 (xa xb xc xd xe:Nat) (y0:(xc≤6)∧((1≤xc)∧((xb=3)∧(xd≤11)))) (y1:(xc+xe≤xa)∧(xa≤xc+xe)) (y2:xe=1):xa+xb≤16777216:=bc (S [xc,xb,xa,xe] [] [(1,0,v0,.k 6),(1,2,v1,n9),(1,0,v2,.a v0 v3),(1,2,v3,n5),(1,3,.a v2 v1,n10)] rfl y0.1 y0.2.2.1 y1.2 y2)
theorem l36 (xa xb xc xd xe xf:Nat) (y0:xb=xc) (y1:xc=xa+(xd+xe)) (y2:xd=0+xf+2):(xa:Int)+1<(xb:Int):=bc (S [xb,xc,xa,xd,xe,xf] [] [(-1,2,v0,v1),(-1,2,v1,.a v2 (.a v3 v4)),(-1,2,v3,.a (.a n4 v5) n6),(1,9,.a (.c v2) n5,.c v0)] rfl y0 y1 y2)
theorem l37 (xa xb xc xd xe xf xg:Nat) (y0:(47=xa)∧((48+xc=xb)∧((48+xe=xd)∧(48+xg=xf)))):(xa=47)∧((xb=48+xc)∧((xd=48+xe)∧(xf=48+xg))):=⟨lN (bc (S [xa] [] [(-1,2,n1,v0),(1,3,v0,n1)] rfl y0.1)) (bc (S [xa] [] [(1,2,n1,v0),(1,3,n1,v0)] rfl y0.1)), ⟨lN (bc (S [xc,xb] [] [(-1,2,.a n11 v0,v1),(1,3,v1,.a n11 v0)] rfl y0.2.1)) (bc (S [xc,xb] [] [(1,2,.a n11 v0,v1),(1,3,.a n11 v0,v1)] rfl y0.2.1)), ⟨lN (bc (S [xe,xd] [] [(-1,2,.a n11 v0,v1),(1,3,v1,.a n11 v0)] rfl y0.2.2.1)) (bc (S [xe,xd] [] [(1,2,.a n11 v0,v1),(1,3,.a n11 v0,v1)] rfl y0.2.2.1)), lN (bc (S [xg,xf] [] [(-1,2,.a n11 v0,v1),(1,3,v1,.a n11 v0)] rfl y0.2.2.2)) (bc (S [xg,xf] [] [(1,2,.a n11 v0,v1),(1,3,.a n11 v0,v1)] rfl y0.2.2.2))⟩⟩⟩
theorem l39 (xa:Nat) (y0:xa≤100):xa≤16777216:=bc (S [xa] [] [(1,0,v0,n13),(1,3,v0,n10)] rfl y0)
theorem l40 (xa:Nat) (xp:Int) (y0:xp=(xa:Int)+4):xp.toNat=xa+4:=lN (bc (S [xa,xp.toNat] [xp] [(1,7,v0,.a (.c v0) n7),(1,7,.c v1,v0),(1,3,v1,.a v0 n7)] rfl y0 (tnn (bc (S [xa] [xp] [(-1,7,v0,.a (.c v0) n7),(1,8,n4,v0)] rfl y0))))) (bc (S [xa,xp.toNat] [xp] [(-1,7,v0,.a (.c v0) n7),(-1,7,.c v1,v0),(1,3,.a v0 n7,v1)] rfl y0 (tnn (bc (S [xa] [xp] [(-1,7,v0,.a (.c v0) n7),(1,8,n4,v0)] rfl y0)))))
theorem l41 (xa xb xc:Nat) (xp:Int) (y0:(xp=(xa:Int))∨((xp=(xb:Int))∨(xp=(xc:Int)))) (y1:xa<10) (y2:xb<10) (y3:xc<10):(0≤xp)∧(xp≤9):=⟨y0.elim (fun j0=>bc (S [xa] [xp] [(-1,7,v0,.c v0),(1,8,n4,v0)] rfl j0)) (fun j0=>j0.elim (fun j1=>bc (S [xb] [xp] [(-1,7,v0,.c v0),(1,8,n4,v0)] rfl j1)) (fun j1=>bc (S [xc] [xp] [(-1,7,v0,.c v0),(1,8,n4,v0)] rfl j1))), y0.elim (fun j0=>bc (S [xa] [xp] [(1,1,v0,n3),(1,7,v0,.c v0),(1,8,v0,n2)] rfl y1 j0)) (fun j0=>j0.elim (fun j1=>bc (S [xb] [xp] [(1,1,v0,n3),(1,7,v0,.c v0),(1,8,v0,n2)] rfl y2 j1)) (fun j1=>bc (S [xc] [xp] [(1,1,v0,n3),(1,7,v0,.c v0),(1,8,v0,n2)] rfl y3 j1)))⟩
theorem l42 (xa:Nat) (xp:Int) (y0:xp=((xa/1000:Nat):Int)) (y1:xa<1000000000):(xp<1000000000)∧(0≤xp):=⟨bc (S [xa/1000,xa,xa%1000] [xp] [(1000,7,v0,.c v0),(1,1,v1,.k 1000000000),(1,2,.a (.m 1000 v0) v2,v1),(1000,9,v0,.k 1000000000)] rfl y0 y1 (dam xa (1000:Nat))), bc (S [xa/1000] [xp] [(-1,7,v0,.c v0),(1,8,n4,v0)] rfl y0)⟩
theorem l43 (xa xb xc:Nat) (xp:Int) (y0:xp=(xb:Int)+1+1+((xc-0:Nat):Int)):-(xa:Int)≤xp:=bc (S [xb,xc-0,xa] [xp] [(-1,7,v0,.a (.a (.a (.c v0) n5) n5) (.c v1)),(1,8,.g (.c v2),v0)] rfl y0)
theorem l44 (xa xb xc xd xe xf xg:Nat) (y0:(xa≤xb+xc)∧(xb+xc≤xa)) (y1:xc=1) (y2:(xb≤xd+xe)∧(xd+xe≤xb)) (y3:xd=1) (y4:(xf+xg≤xe)∧(xe≤xf+xg)) (y5:xf=1) (y6:xg=0+1+1+1):xa≤16777216:=bc (S [xa,xb,xc,xd,xe,xf,xg] [] [(1,0,v0,.a v1 v2),(1,2,v2,n5),(1,0,v1,.a v3 v4),(1,2,v3,n5),(1,0,v4,.a v5 v6),(1,2,v5,n5),(1,2,v6,.a (.a (.a n4 n5) n5) n5),(1,3,v0,n10)] rfl y0.1 y1 y2.1 y3 y4.2 y5 y6)
theorem l45 (xa xb:Nat) :xa≤xa+xb:=bc (S [xa,xb] [] [(1,3,v0,.a v0 v1)] rfl)
theorem l46 (xa:Nat) :(xa:Int)+2=((((xa:Int)+1+1).toNat:Nat):Int):=lI (bc (S [((xa:Int)+1+1).toNat,xa] [] [(-1,7,.c v0,.a (.a (.c v1) n5) n5),(1,8,.a (.c v1) n6,.c v0)] rfl (tnn (bc (S [xa] [] [(1,8,n4,.a (.a (.c v0) n5) n5)] rfl))))) (bc (S [((xa:Int)+1+1).toNat,xa] [] [(1,7,.c v0,.a (.a (.c v1) n5) n5),(1,8,.c v0,.a (.c v1) n6)] rfl (tnn (bc (S [xa] [] [(1,8,n4,.a (.a (.c v0) n5) n5)] rfl)))))
theorem l47 (xa:Nat) (y0:xa<1000):(xa+1000)/10/10/10=1:=lN (bc (S [xa,(xa+1000)/10,(xa+1000)%10,(xa+1000)/10/10,(xa+1000)/10%10,(xa+1000)/10/10/10,(xa+1000)/10/10%10] [] [(1,1,v0,n14),(1,2,.a (.m 10 v1) v2,.a v0 n14),(10,2,.a (.m 10 v3) v4,v1),(100,2,.a (.m 10 v5) v6,v3),(1000,3,v5,n5)] rfl y0 (dam (xa+1000) (10:Nat)) (dam ((xa+1000)/10) (10:Nat)) (dam ((xa+1000)/10/10) (10:Nat)))) (bc (S [(xa+1000)/10,(xa+1000)%10,xa,(xa+1000)/10/10,(xa+1000)/10%10,(xa+1000)/10/10/10,(xa+1000)/10/10%10] [] [(-1,2,.a (.m 10 v0) v1,.a v2 n14),(1,1,v1,n3),(-10,2,.a (.m 10 v3) v4,v0),(10,1,v4,n3),(-100,2,.a (.m 10 v5) v6,v3),(100,1,v6,n3),(1000,3,n5,v5)] rfl (dam (xa+1000) (10:Nat)) (mdl (xa+1000) (10:Nat) rfl) (dam ((xa+1000)/10) (10:Nat)) (mdl ((xa+1000)/10) (10:Nat) rfl) (dam ((xa+1000)/10/10) (10:Nat)) (mdl ((xa+1000)/10/10) (10:Nat) rfl)))
theorem l48 (xa xb:Nat) (y0:xb≤3) (y1:xa+10*8<5000):xa+3+10*(xb+1)<5000:=bc (S [xb,xa] [] [(10,0,v0,n9),(1,1,.a v1 (.m 10 (.k 8)),n15),(1,4,.a (.a v1 n9) (.m 10 (.a v0 n5)),n15)] rfl y0 y1)
theorem l49 (xa xb xc xd:Nat) (xp:Int) (y0:xp=(xb:Int)+1+((xc-(xd+1):Nat):Int)):-(xa:Int)≤xp:=bc (S [xb,xc-(xd+1),xa] [xp] [(-1,7,v0,.a (.a (.c v0) n5) (.c v1)),(1,8,.g (.c v2),v0)] rfl y0)
theorem l50 (xa:Nat) (y0:(xa+1000)/10/10/10=1):(xa+1000)/10/10%10=xa/100:=lN (bc (S [(xa+1000)/10/10/10,(xa+1000)/10,(xa+1000)%10,xa,(xa+1000)/10/10,(xa+1000)/10%10,(xa+1000)/10/10%10,xa/100,xa%100] [] [(-1000,2,v0,n5),(1,2,.a (.m 10 v1) v2,.a v3 n14),(10,2,.a (.m 10 v4) v5,v1),(100,2,.a (.m 10 v0) v6,v4),(-1,2,.a (.m 100 v7) v8,v3),(1,1,v8,n13),(100,3,v6,v7)] rfl y0 (dam (xa+1000) (10:Nat)) (dam ((xa+1000)/10) (10:Nat)) (dam ((xa+1000)/10/10) (10:Nat)) (dam xa (100:Nat)) (mdl xa (100:Nat) rfl))) (bc (S [(xa+1000)/10/10/10,(xa+1000)/10,(xa+1000)%10,xa,(xa+1000)/10/10,(xa+1000)/10%10,(xa+1000)/10/10%10,xa/100,xa%100] [] [(1000,2,v0,n5),(-1,2,.a (.m 10 v1) v2,.a v3 n14),(1,1,v2,n3),(-10,2,.a (.m 10 v4) v5,v1),(10,1,v5,n3),(-100,2,.a (.m 10 v0) v6,v4),(1,2,.a (.m 100 v7) v8,v3),(100,3,v7,v6)] rfl y0 (dam (xa+1000) (10:Nat)) (mdl (xa+1000) (10:Nat) rfl) (dam ((xa+1000)/10) (10:Nat)) (mdl ((xa+1000)/10) (10:Nat) rfl) (dam ((xa+1000)/10/10) (10:Nat)) (dam xa (100:Nat))))
theorem l51 (xa xb:Nat) (y0:xb+1≤xa):xa-(xb+1)<xa:=bc (S [xa-(xb+1),xb,xa] [] [(1,2,.a v0 (.a v1 n5),v2),(1,4,v0,v2)] rfl (sac (bc (S [xb,xa] [] [(1,0,.a v0 n5,v1),(1,3,.a v0 n5,v1)] rfl y0))))
theorem l52 (xa xb:Nat) (y0:xb≤3) (y1:xa+8<500):xa+1+xb+1<500:=bc (S [xb,xa] [] [(1,0,v0,n9),(1,1,.a v1 (.k 8),n16),(1,4,.a (.a (.a v1 n5) v0) n5,n16)] rfl y0 y1)
theorem l53 (xa xb xc:Nat) :(((xa:Int)=(xb:Int))∨((xc:Int)=(xb:Int)))↔((xa=xb)∨(xc=xb)):=⟨fun i0=>bc fun k1=>i0.elim (fun j2=>(nN ((fun x=>k1 (.inl x)))).elim (fun j3=>S [xa,xb] [] [(-1,7,.c v0,.c v1),(1,1,v0,v1)] rfl j2 j3) (fun j3=>S [xa,xb] [] [(1,7,.c v0,.c v1),(1,1,v1,v0)] rfl j2 j3)) (fun j2=>(nN ((fun x=>k1 (.inl x)))).elim (fun j3=>(nN ((fun x=>k1 (.inr x)))).elim (fun j4=>S [xc,xb] [] [(-1,7,.c v0,.c v1),(1,1,v0,v1)] rfl j2 j4) (fun j4=>S [xc,xb] [] [(1,7,.c v0,.c v1),(1,1,v1,v0)] rfl j2 j4)) (fun j3=>(nN ((fun x=>k1 (.inr x)))).elim (fun j4=>S [xc,xb] [] [(-1,7,.c v0,.c v1),(1,1,v0,v1)] rfl j2 j4) (fun j4=>S [xc,xb] [] [(1,7,.c v0,.c v1),(1,1,v1,v0)] rfl j2 j4))),fun i0=>bc fun k1=>i0.elim (fun j2=>(nI ((fun x=>k1 (.inl x)))).elim (fun j3=>S [xa,xb] [] [(-1,2,v0,v1),(1,6,.c v0,.c v1)] rfl j2 j3) (fun j3=>S [xa,xb] [] [(1,2,v0,v1),(1,6,.c v1,.c v0)] rfl j2 j3)) (fun j2=>(nI ((fun x=>k1 (.inl x)))).elim (fun j3=>(nI ((fun x=>k1 (.inr x)))).elim (fun j4=>S [xc,xb] [] [(-1,2,v0,v1),(1,6,.c v0,.c v1)] rfl j2 j4) (fun j4=>S [xc,xb] [] [(1,2,v0,v1),(1,6,.c v1,.c v0)] rfl j2 j4)) (fun j3=>(nI ((fun x=>k1 (.inr x)))).elim (fun j4=>S [xc,xb] [] [(-1,2,v0,v1),(1,6,.c v0,.c v1)] rfl j2 j4) (fun j4=>S [xc,xb] [] [(1,2,v0,v1),(1,6,.c v1,.c v0)] rfl j2 j4)))⟩
theorem l55 (xa xb xc xd xe xf:Nat) (y0:(xa≤xb+xc)∧(xb+xc≤xa)) (y1:xb=1) (y2:(xd+xe≤xc)∧(xc≤xd+xe)) (y3:xd=1) (y4:xe=xf) (y5:xf+1≤100):xa≤16777216:=bc (S [xa,xb,xc,xd,xe,xf] [] [(1,0,v0,.a v1 v2),(1,2,v1,n5),(1,0,v2,.a v3 v4),(1,2,v3,n5),(1,2,v4,v5),(1,0,.a v5 n5,n13),(1,3,v0,n10)] rfl y0.1 y1 y2.2 y3 y4 y5)
theorem l56 (xa:Nat) (y0:(48≤xa)∧(xa≤57)):xa-48<10:=bc (S [xa,xa-48] [] [(1,0,v0,n0),(1,2,.a v1 n11,v0),(1,4,v1,n3)] rfl y0.2 (sac (bc (S [xa] [] [(1,0,n11,v0),(1,3,n11,v0)] rfl y0.1))))
theorem l57 (xa xb xc:Nat) (y0:xc=xb) (y1:xa≥xc) (y2:xa-xc=0):xa-xb=0:=lN (bc (S [xc,xb,xa-xc,xa,xa-xb] [] [(1,2,v0,v1),(1,2,v2,n4),(-1,2,.a v2 v0,v3),(1,2,.a v4 v1,v3),(1,3,v4,n4)] rfl y0 y2 (sac (bc (S [xc,xa] [] [(1,0,v0,v1),(1,3,v0,v1)] rfl y1))) (sac (bc (S [xc,xb,xa] [] [(-1,2,v0,v1),(1,0,v0,v2),(1,3,v1,v2)] rfl y0 y1))))) (bc (S [xa-xb] [] [(1,3,n4,v0)] rfl))
theorem l58 (xa xb xc:Nat) (y0:(xa≤6)∧((1≤xa)∧((xb=3)∧(xc≤11)))):1+xa+1+xb≤16777216:=bc (S [xa,xb] [] [(1,0,v0,.k 6),(1,2,v1,n9),(1,3,.a (.a (.a n5 v0) n5) v1,n10)] rfl y0.1 y0.2.2.1)
theorem l59 (xa xb xc xd xe xf:Nat) (y0:(xa≤xb+xc)∧(xb+xc≤xa)) (y1:xc=1) (y2:(xb≤xd+xe)∧(xd+xe≤xb)) (y3:xd=1) (y4:xe=xf) (y5:xf≤100):xa≤16777216:=bc (S [xa,xb,xc,xd,xe,xf] [] [(1,0,v0,.a v1 v2),(1,2,v2,n5),(1,0,v1,.a v3 v4),(1,2,v3,n5),(1,2,v4,v5),(1,0,v5,n13),(1,3,v0,n10)] rfl y0.1 y1 y2.1 y3 y4 y5)
theorem l60 (xa:Nat) :-1073741824≤(xa:Int):=bc (S [xa] [] [(1,8,.g n17,.c v0)] rfl)
theorem l62 (xa xb xc xd xe xf:Nat) (xp:Int) (y0:xa=xb+(xc+xd)) (y1:xc=1+xe+2) (y2:xp=(xb:Int)+1+1+((xe-xf:Nat):Int)) (y3:xf≤xe):xp<(xa:Int):=bc (S [xa,xb,xc,xd,xe,xe-xf,xf] [xp] [(-1,2,v0,.a v1 (.a v2 v3)),(-1,2,v2,.a (.a n5 v4) n6),(1,7,v0,.a (.a (.a (.c v1) n5) n5) (.c v5)),(1,2,.a v5 v6,v4),(1,9,v0,.c v0)] rfl y0 y1 y2 (sac (bc (S [xf,xe] [] [(1,0,v0,v1),(1,3,v0,v1)] rfl y3))))
theorem l63 (xa xb xc:Nat) (xp:Int) (y0:xp=(xb:Int)+1+((xc-0:Nat):Int)):-(xa:Int)≤xp:=bc (S [xb,xc-0,xa] [xp] [(-1,7,v0,.a (.a (.c v0) n5) (.c v1)),(1,8,.g (.c v2),v0)] rfl y0)
theorem l64 (xp:Int) :xp%10=(((xp%10).toNat:Nat):Int):=lI (bc (S [(xp%10).toNat] [xp%10] [(-1,7,.c v0,v0),(1,8,v0,.c v0)] rfl (tnn (bc (S [] [xp%10] [(1,5,n4,v0),(1,8,n4,v0)] rfl (im0 xp (10:Int) rfl)))))) (bc (S [(xp%10).toNat] [xp%10] [(1,7,.c v0,v0),(1,8,.c v0,v0)] rfl (tnn (bc (S [] [xp%10] [(1,5,n4,v0),(1,8,n4,v0)] rfl (im0 xp (10:Int) rfl))))))
theorem l65 (xa xb xc:Nat) (y0:(xa≤6)∧((1≤xa)∧((xb=3)∧(xc≤11)))):1+xa+1≤16777216:=bc (S [xa] [] [(1,0,v0,.k 6),(1,3,.a (.a n5 v0) n5,n10)] rfl y0.1)
theorem l66 (xa:Nat) :((0≤-1+((xa:Int)+1))∧(-1+((xa:Int)+1)<(xa:Int)+1))∧((-1+((xa:Int)+1)).toNat=xa):=⟨⟨bc (S [xa] [] [(1,8,n4,.a (.g n5) (.a (.c v0) n5))] rfl), bc (S [xa] [] [(1,9,.a (.g n5) (.a (.c v0) n5),.a (.c v0) n5)] rfl)⟩, lN (bc (S [(-1+((xa:Int)+1)).toNat,xa] [] [(1,7,.c v0,.a (.g n5) (.a (.c v1) n5)),(1,3,v0,v1)] rfl (tnn (bc (S [xa] [] [(1,8,n4,.a (.g n5) (.a (.c v0) n5))] rfl))))) (bc (S [(-1+((xa:Int)+1)).toNat,xa] [] [(-1,7,.c v0,.a (.g n5) (.a (.c v1) n5)),(1,3,v1,v0)] rfl (tnn (bc (S [xa] [] [(1,8,n4,.a (.g n5) (.a (.c v0) n5))] rfl)))))⟩
theorem l67 (xa xb:Nat) (y0:xa≤100) (y1:xb=xa) (y2:(xb:Int)≥2^63):False:=S [xa,xb] [] [(1,0,v0,n13),(1,2,v1,v0),(1,5,n12,.c v1)] rfl y0 y1 y2
theorem l68 (xp:Int) :(xp%1000000000).toNat<1000000000:=bc (S [(xp%1000000000).toNat] [xp%1000000000] [(1,6,v0,.k 1000000000),(1,7,.c v0,v0),(1,4,v0,.k 1000000000)] rfl (im1 xp (1000000000:Int) rfl) (tnn (bc (S [] [xp%1000000000] [(1,5,n4,v0),(1,8,n4,v0)] rfl (im0 xp (1000000000:Int) rfl)))))
theorem l69 (xa:Nat) :xa≤xa+1:=bc (S [xa] [] [(1,3,v0,.a v0 n5)] rfl)
theorem l70 (xa xb xc xd:Nat) (y0:xa≤20) (y1:xb≤10) (y2:xc≤10) (y3:xd≤10):1+(0+xa)+(1+(xb+xc+xd+0))≤1000:=bc (S [xa,xb,xc,xd] [] [(1,0,v0,.k 20),(1,0,v1,n3),(1,0,v2,n3),(1,0,v3,n3),(1,3,.a (.a n5 (.a n4 v0)) (.a n5 (.a (.a (.a v1 v2) v3) n4)),n14)] rfl y0 y1 y2 y3)
theorem l71 (xa:Nat) :xa+5<((xa:Int)+3+3).toNat:=bc (S [((xa:Int)+3+3).toNat,xa] [] [(-1,7,.c v0,.a (.a (.c v1) n9) n9),(1,4,.a v1 n8,v0)] rfl (tnn (bc (S [xa] [] [(1,8,n4,.a (.a (.c v0) n9) n9)] rfl))))
theorem l72 (xa:Nat) (y0:10+1≤xa) (y1:xa≤20):((xa:Int)+10-1)/10=2:=lI (bc (S [xa] [((xa:Int)+10-1)/10,((xa:Int)+10-1)%10] [(1,0,v0,.k 20),(1,7,.a (.m 10 v0) v1,.s (.a (.c v0) n3) n5),(1,5,n4,v1),(10,8,v0,n6)] rfl y1 (mde ((xa:Int)+10-1) (10:Int)) (im0 ((xa:Int)+10-1) (10:Int) rfl))) (bc (S [xa] [((xa:Int)+10-1)/10,((xa:Int)+10-1)%10] [(1,0,.a n3 n5,v0),(-1,7,.a (.m 10 v0) v1,.s (.a (.c v0) n3) n5),(1,6,v1,n3),(10,8,n6,v0)] rfl y0 (mde ((xa:Int)+10-1) (10:Int)) (im1 ((xa:Int)+10-1) (10:Int) rfl)))
theorem l73 (xa xb xc xd xe:Nat) (y0:xb=1+xa+2) (y1:xc=xd+(xb+xe)) (y2:xc≤50):xa≤99:=bc (S [xb,xa,xc,xd,xe] [] [(-1,2,v0,.a (.a n5 v1) n6),(-1,2,v2,.a v3 (.a v0 v4)),(1,0,v2,.k 50),(1,3,v1,.k 99)] rfl y0 y1 y2)
theorem l74 :(0+1+1+1:Nat)≤16777216:=bc (S [] [] [(1,3,.a (.a (.a n4 n5) n5) n5,n10)] rfl)
theorem l75 (xa xb:Nat) (y0:xa+10*2<5000) (y1:xb=9900):xa+3+64<xb:=bc (S [xa,xb] [] [(1,1,.a v0 (.m 10 n6),n15),(-1,2,v1,.k 9900),(1,4,.a (.a v0 n9) (.k 64),v1)] rfl y0 y1)
theorem l76 (xa:Nat) :((xa:Int)+1+2).toNat<xa+5:=bc (S [((xa:Int)+1+2).toNat,xa] [] [(1,7,.c v0,.a (.a (.c v1) n5) n6),(1,4,v0,.a v1 n8)] rfl (tnn (bc (S [xa] [] [(1,8,n4,.a (.a (.c v0) n5) n6)] rfl))))
theorem l77 (xa:Nat) :xa/10*10+(48+xa%10-48)=xa:=lN (bc (S [xa/10,xa%10,xa,48+xa%10-48] [] [(1,2,.a (.m 10 v0) v1,v2),(1,2,.a v3 n11,.a n11 v1),(1,3,.a (.r v0 10) v3,v2)] rfl (dam xa (10:Nat)) (sac (bc (S [xa%10] [] [(1,3,n11,.a n11 v0)] rfl))))) (bc (S [xa/10,xa%10,xa,48+xa%10-48] [] [(-1,2,.a (.m 10 v0) v1,v2),(-1,2,.a v3 n11,.a n11 v1),(1,3,v2,.a (.r v0 10) v3)] rfl (dam xa (10:Nat)) (sac (bc (S [xa%10] [] [(1,3,n11,.a n11 v0)] rfl)))))
theorem l78 (xa:Nat) (y0:xa<1000):(xa+1000)/10/10/10≤9:=bc (S [xa,(xa+1000)/10,(xa+1000)%10,(xa+1000)/10/10,(xa+1000)/10%10,(xa+1000)/10/10/10,(xa+1000)/10/10%10] [] [(1,1,v0,n14),(1,2,.a (.m 10 v1) v2,.a v0 n14),(10,2,.a (.m 10 v3) v4,v1),(100,2,.a (.m 10 v5) v6,v3),(1000,3,v5,n2)] rfl y0 (dam (xa+1000) (10:Nat)) (dam ((xa+1000)/10) (10:Nat)) (dam ((xa+1000)/10/10) (10:Nat)))
theorem l79 (xa:Nat) :(xa:Int)+1+3+1=(xa:Int)+5:=lI (bc (S [xa] [] [(1,8,.a (.a (.a (.c v0) n5) n9) n5,.a (.c v0) n8)] rfl)) (bc (S [xa] [] [(1,8,.a (.c v0) n8,.a (.a (.a (.c v0) n5) n9) n5)] rfl))
theorem l81 (xa xb xc xd:Nat) (y0:xb=xa+(xc+xd)) (y1:xb≤50):(-9223372036854775808≤(xa:Int)+1+1)∧((xa:Int)+1+1<9223372036854775808):=⟨bc (S [xa] [] [(1,8,.g n12,.a (.a (.c v0) n5) n5)] rfl), bc (S [xb,xa,xc,xd] [] [(-1,2,v0,.a v1 (.a v2 v3)),(1,0,v0,.k 50),(1,9,.a (.a (.c v1) n5) n5,n12)] rfl y0 y1)⟩
theorem l82 (xa xb xc:Nat) :((¬((xa:Int)=(xb:Int)))∧(¬((xc:Int)=(xb:Int))))↔((¬(xa=xb))∧(¬(xc=xb))):=⟨fun i0=>⟨fun i1=>(nI (i0.1)).elim (fun j2=>S [xa,xb] [] [(-1,2,v0,v1),(1,6,.c v0,.c v1)] rfl i1 j2) (fun j2=>S [xa,xb] [] [(1,2,v0,v1),(1,6,.c v1,.c v0)] rfl i1 j2), fun i1=>(nI (i0.1)).elim (fun j2=>(nI (i0.2)).elim (fun j3=>S [xc,xb] [] [(-1,2,v0,v1),(1,6,.c v0,.c v1)] rfl i1 j3) (fun j3=>S [xc,xb] [] [(1,2,v0,v1),(1,6,.c v1,.c v0)] rfl i1 j3)) (fun j2=>(nI (i0.2)).elim (fun j3=>S [xc,xb] [] [(-1,2,v0,v1),(1,6,.c v0,.c v1)] rfl i1 j3) (fun j3=>S [xc,xb] [] [(1,2,v0,v1),(1,6,.c v1,.c v0)] rfl i1 j3))⟩,fun i0=>⟨fun i1=>(nN (i0.1)).elim (fun j2=>S [xa,xb] [] [(-1,7,.c v0,.c v1),(1,1,v0,v1)] rfl i1 j2) (fun j2=>S [xa,xb] [] [(1,7,.c v0,.c v1),(1,1,v1,v0)] rfl i1 j2), fun i1=>(nN (i0.1)).elim (fun j2=>(nN (i0.2)).elim (fun j3=>S [xc,xb] [] [(-1,7,.c v0,.c v1),(1,1,v0,v1)] rfl i1 j3) (fun j3=>S [xc,xb] [] [(1,7,.c v0,.c v1),(1,1,v1,v0)] rfl i1 j3)) (fun j2=>(nN (i0.2)).elim (fun j3=>S [xc,xb] [] [(-1,7,.c v0,.c v1),(1,1,v0,v1)] rfl i1 j3) (fun j3=>S [xc,xb] [] [(1,7,.c v0,.c v1),(1,1,v1,v0)] rfl i1 j3))⟩⟩
theorem l83 (xa xb:Nat) :-(xa:Int)≤(xb:Int)+1+1:=bc (S [xa,xb] [] [(1,8,.g (.c v0),.a (.a (.c v1) n5) n5)] rfl)
theorem l85 (xa:Nat) (y0:xa<10):(47≤48+xa)∧(48+xa≤57):=⟨bc (S [xa] [] [(1,3,n1,.a n11 v0)] rfl), bc (S [xa] [] [(1,1,v0,n3),(1,3,.a n11 v0,n0)] rfl y0)⟩
theorem l86 (xa xb xc:Nat) (y0:xc+xa≤xb):xa≤xb-xc:=bc (S [xc,xa,xb,xb-xc] [] [(1,0,.a v0 v1,v2),(-1,2,.a v3 v0,v2),(1,3,v1,v3)] rfl y0 (sac (bc (S [xc,xa,xb] [] [(1,0,.a v0 v1,v2),(1,3,v0,v2)] rfl y0))))
theorem l87 (xa:Nat) (xp xq xr:Int) (y0:(1000*xq+xp≤xr)∧((xr≤1000*xq+xp)∧((0≤xp)∧((xp≤999)∧((0≤xq)∧(xq<1024)))))):(0≤xp*1024+((xa%1024:Nat):Int))∧(xp*1024+((xa%1024:Nat):Int)<1024000):=⟨bc (S [xa%1024] [xp] [(1024,5,n4,v0),(1,8,n4,.a (.r v0 1024) (.c v0))] rfl y0.2.2.1), bc (S [xa%1024] [xp] [(1024,5,v0,.k 999),(1,1,v0,.k 1024),(1,9,.a (.r v0 1024) (.c v0),.k 1024000)] rfl y0.2.2.2.1 (mdl xa (1024:Nat) rfl))⟩
theorem l88 (xa xb:Nat) :((xa:Int)=(xb:Int))↔(xa=xb):=⟨fun i0=>lN (bc (S [xa,xb] [] [(1,7,.c v0,.c v1),(1,3,v0,v1)] rfl i0)) (bc (S [xa,xb] [] [(-1,7,.c v0,.c v1),(1,3,v1,v0)] rfl i0)),fun i0=>lI (bc (S [xa,xb] [] [(1,2,v0,v1),(1,8,.c v0,.c v1)] rfl i0)) (bc (S [xa,xb] [] [(-1,2,v0,v1),(1,8,.c v1,.c v0)] rfl i0))⟩
theorem l89 (xa:Nat) (y0:xa<1073741824):xa/1024/1024<1024:=bc (S [xa,xa/1024,xa%1024,xa/1024/1024,xa/1024%1024] [] [(1,1,v0,n17),(1,2,.a (.m 1024 v1) v2,v0),(1024,2,.a (.m 1024 v3) v4,v1),(1048576,4,v3,.k 1024)] rfl y0 (dam xa (1024:Nat)) (dam (xa/1024) (1024:Nat)))
theorem l90 (xa:Nat) :((xa:Int)+1+1).toNat<xa+4:=bc (S [((xa:Int)+1+1).toNat,xa] [] [(1,7,.c v0,.a (.a (.c v1) n5) n5),(1,4,v0,.a v1 n7)] rfl (tnn (bc (S [xa] [] [(1,8,n4,.a (.a (.c v0) n5) n5)] rfl))))
theorem l91 (xa xb:Nat) (y0:xa+1≤xb):xa+2≤xb+1:=bc (S [xa,xb] [] [(1,0,.a v0 n5,v1),(1,3,.a v0 n6,.a v1 n5)] rfl y0)
theorem l92 (xa xb xc:Nat) (y0:48+xa=xb) (y1:¬(48+xc=xb)) (y2:xa=xc):False:=(nN (y1)).elim (fun j0=>S [xa,xb,xc] [] [(-1,2,.a n11 v0,v1),(1,2,v0,v2),(1,1,.a n11 v2,v1)] rfl y0 y2 j0) (fun j0=>S [xa,xb,xc] [] [(1,2,.a n11 v0,v1),(-1,2,v0,v2),(1,1,v1,.a n11 v2)] rfl y0 y2 j0)
theorem l93 (xa xb xc:Nat) (y0:(xa=xb)∨((xa=45)∨(xa=xc))) (y1:(48≤xb)∧(xb≤57)) (y2:(48≤xc)∧(xc≤57)):(xa≠33)∧(xa≠93):=⟨y0.elim (fun j0=>fun k1=>S [xb,xa] [] [(1,0,n11,v0),(-1,2,v1,v0),(1,2,v1,.k 33)] rfl y1.1 j0 k1) (fun j0=>j0.elim (fun j1=>fun k2=>S [xa] [] [(-1,2,v0,.k 45),(1,2,v0,.k 33)] rfl j1 k2) (fun j1=>fun k2=>S [xc,xa] [] [(1,0,n11,v0),(-1,2,v1,v0),(1,2,v1,.k 33)] rfl y2.1 j1 k2)), y0.elim (fun j0=>fun k1=>S [xb,xa] [] [(1,0,v0,n0),(1,2,v1,v0),(-1,2,v1,.k 93)] rfl y1.2 j0 k1) (fun j0=>j0.elim (fun j1=>fun k2=>S [xa] [] [(1,2,v0,.k 45),(-1,2,v0,.k 93)] rfl j1 k2) (fun j1=>fun k2=>S [xc,xa] [] [(1,0,v0,n0),(1,2,v1,v0),(-1,2,v1,.k 93)] rfl y2.2 j1 k2))⟩
theorem l94 :(301+1+2:Nat)<500:=bc (S [] [] [(1,4,.a (.a (.k 301) n5) n6,n16)] rfl)
theorem l95 (xa xb:Nat) (xp:Int) (y0:xa=xb) (y1:(0≤xp)∧(xp≤(xb:Int))) (y2:xb≤100):((xa:Int)+1-xp).toNat≤2^24:=bc (S [xa,xb,((xa:Int)+1-xp).toNat] [xp] [(1,2,v0,v1),(1,5,n4,v0),(1,0,v1,n13),(1,7,.c v2,.s (.a (.c v0) n5) v0),(1,3,v2,n10)] rfl y0 y1.1 y2 (tnn (bc (S [xa,xb] [xp] [(-1,2,v0,v1),(1,5,v0,.c v1),(1,8,n4,.s (.a (.c v0) n5) v0)] rfl y0 y1.2))))
theorem l96 (xa:Nat) (y0:(xa:Int)≠0) (y1:xa=0):False:=(nI (y0)).elim (fun j0=>S [xa] [] [(1,6,.c v0,n4)] rfl j0) (fun j0=>S [xa] [] [(1,2,v0,n4),(1,6,n4,.c v0)] rfl y1 j0)
theorem l97 (xa xb xc xd:Nat) (y0:(48+xa=xd)∨(48+xc=xd)) (y1:xd=48+xb):(xa=xb)∨(xc=xb):=bc fun k0=>y0.elim (fun j1=>(nN ((fun x=>k0 (.inl x)))).elim (fun j2=>S [xd,xb,xa] [] [(-1,2,v0,.a n11 v1),(-1,2,.a n11 v2,v0),(1,1,v2,v1)] rfl y1 j1 j2) (fun j2=>S [xd,xb,xa] [] [(1,2,v0,.a n11 v1),(1,2,.a n11 v2,v0),(1,1,v1,v2)] rfl y1 j1 j2)) (fun j1=>(nN ((fun x=>k0 (.inl x)))).elim (fun j2=>(nN ((fun x=>k0 (.inr x)))).elim (fun j3=>S [xd,xb,xc] [] [(-1,2,v0,.a n11 v1),(-1,2,.a n11 v2,v0),(1,1,v2,v1)] rfl y1 j1 j3) (fun j3=>S [xd,xb,xc] [] [(1,2,v0,.a n11 v1),(1,2,.a n11 v2,v0),(1,1,v1,v2)] rfl y1 j1 j3)) (fun j2=>(nN ((fun x=>k0 (.inr x)))).elim (fun j3=>S [xd,xb,xc] [] [(-1,2,v0,.a n11 v1),(-1,2,.a n11 v2,v0),(1,1,v2,v1)] rfl y1 j1 j3) (fun j3=>S [xd,xb,xc] [] [(1,2,v0,.a n11 v1),(1,2,.a n11 v2,v0),(1,1,v1,v2)] rfl y1 j1 j3)))
theorem l98 (xa:Nat) :0≤(xa:Int)+3:=bc (S [xa] [] [(1,8,n4,.a (.c v0) n9)] rfl)
theorem l99 (xa xb:Nat) :(xa:Int)+1+((xb-0:Nat):Int)=(xa:Int)+((1+xb:Nat):Int):=lI (bc (S [xb-0,xb,xa] [] [(1,2,.a v0 n4,v1),(1,8,.a (.a (.c v2) n5) (.c v0),.a (.c v2) (.c (.a n5 v1)))] rfl (sac (bc (S [xb] [] [(1,3,n4,v0)] rfl))))) (bc (S [xb-0,xb,xa] [] [(-1,2,.a v0 n4,v1),(1,8,.a (.c v2) (.c (.a n5 v1)),.a (.a (.c v2) n5) (.c v0))] rfl (sac (bc (S [xb] [] [(1,3,n4,v0)] rfl)))))
theorem l100 (xa:Nat) :0≤(xa:Int)+1+1:=bc (S [xa] [] [(1,8,n4,.a (.a (.c v0) n5) n5)] rfl)
theorem l101 (xa xb:Nat) :xa+1+xb=xa+xb+1:=lN (bc (S [xa,xb] [] [(1,3,.a (.a v0 n5) v1,.a (.a v0 v1) n5)] rfl)) (bc (S [xa,xb] [] [(1,3,.a (.a v0 v1) n5,.a (.a v0 n5) v1)] rfl))
theorem l102 (xa:Nat) :0≤(xa:Int):=bc (S [xa] [] [(1,8,n4,.c v0)] rfl)
theorem l103 (xa xb:Nat) (xp:Int) (y0:xb<xa+1) (y1:xp≤(xb:Int)):xp+((((xa:Int)-xp).toNat:Nat):Int)=(xa:Int):=lI (bc (S [((xa:Int)-xp).toNat,xa] [xp] [(1,7,.c v0,.s (.c v1) v0),(1,8,.a v0 (.c v0),.c v1)] rfl (tnn (bc (S [xb,xa] [xp] [(1,1,v0,.a v1 n5),(1,5,v0,.c v0),(1,8,n4,.s (.c v1) v0)] rfl y0 y1))))) (bc (S [((xa:Int)-xp).toNat,xa] [xp] [(-1,7,.c v0,.s (.c v1) v0),(1,8,.c v1,.a v0 (.c v0))] rfl (tnn (bc (S [xb,xa] [xp] [(1,1,v0,.a v1 n5),(1,5,v0,.c v0),(1,8,n4,.s (.c v1) v0)] rfl y0 y1)))))
theorem l104 (xa:Nat) (y0:48+xa%1000/100=47):False:=S [xa%1000/100] [] [(1,2,.a n11 v0,n1)] rfl y0
theorem l105 :(4+3+10*2:Nat)<5000:=bc (S [] [] [(1,4,.a (.a n7 n9) (.m 10 n6),n15)] rfl)
theorem l106 (xa xb xc xd:Nat) (y0:xb=xa+(xc+xd)) (y1:xb≤50):(-9223372036854775808≤(xa:Int)+1)∧((xa:Int)+1<9223372036854775808):=⟨bc (S [xa] [] [(1,8,.g n12,.a (.c v0) n5)] rfl), bc (S [xb,xa,xc,xd] [] [(-1,2,v0,.a v1 (.a v2 v3)),(1,0,v0,.k 50),(1,9,.a (.c v1) n5,n12)] rfl y0 y1)⟩
theorem l107 (xa xb xc xd:Nat) (y0:xa=xb) (y1:(xc<xb)∧((100<xb)∧((xd<xb)∧((107<xb)∧(xa<xb))))):False:=S [xa,xb] [] [(-1,2,v0,v1),(1,1,v0,v1)] rfl y0 y1.2.2.2.2
theorem l108 (xa:Nat) :xa<xa+1:=bc (S [xa] [] [(1,4,v0,.a v0 n5)] rfl)
theorem l109 (xa xb:Nat) (y0:xa≤xb):xa/10≤xb:=bc (S [xa,xb,xa/10,xa%10] [] [(10,0,v0,v1),(1,2,.a (.m 10 v2) v3,v0),(10,3,v2,v1)] rfl y0 (dam xa (10:Nat)))
theorem l110 (xa xb:Nat) :(((xa+xb:Nat):Int)-(xa:Int)).toNat=xb:=lN (bc (S [(((xa+xb:Nat):Int)-(xa:Int)).toNat,xa,xb] [] [(1,7,.c v0,.s (.c (.a v1 v2)) (.c v1)),(1,3,v0,v2)] rfl (tnn (bc (S [xa,xb] [] [(1,8,n4,.s (.c (.a v0 v1)) (.c v0))] rfl))))) (bc (S [(((xa+xb:Nat):Int)-(xa:Int)).toNat,xa,xb] [] [(-1,7,.c v0,.s (.c (.a v1 v2)) (.c v1)),(1,3,v2,v0)] rfl (tnn (bc (S [xa,xb] [] [(1,8,n4,.s (.c (.a v0 v1)) (.c v0))] rfl)))))
theorem l111 (xa:Nat) :(0≤((xa%1000/100:Nat):Int))∧(((xa%1000/100:Nat):Int)≤9):=⟨bc (S [xa%1000/100] [] [(1,8,n4,.c v0)] rfl), bc (S [xa%1000,xa%1000/100,xa%1000%100] [] [(1,1,v0,n14),(1,2,.a (.m 100 v1) v2,v0),(100,8,.c v1,n2)] rfl (mdl xa (1000:Nat) rfl) (dam (xa%1000) (100:Nat)))⟩
theorem l112 (xa:Nat) (y0:xa+10*(2+1)<5000):xa+3+10*(1+1)<5000:=bc (S [xa] [] [(1,1,.a v0 (.m 10 (.a n6 n5)),n15),(1,4,.a (.a v0 n9) (.m 10 (.a n5 n5)),n15)] rfl y0)
theorem l113 (xa xb:Nat) (y0:(xa:Int)=(xb:Int)):xa=xb:=lN (bc (S [xa,xb] [] [(1,7,.c v0,.c v1),(1,3,v0,v1)] rfl y0)) (bc (S [xa,xb] [] [(-1,7,.c v0,.c v1),(1,3,v1,v0)] rfl y0))
theorem l114 (xa:Nat) :xa≤xa+1+1:=bc (S [xa] [] [(1,3,v0,.a (.a v0 n5) n5)] rfl)
theorem l115 (xa xb xc xd:Nat) (y0:(xb+xc≤xa)∧(xa≤xb+xc)) (y1:xb=1) (y2:xc=xd) (y3:xd+1≤100):xa≤16777216:=bc (S [xa,xb,xc,xd] [] [(1,0,v0,.a v1 v2),(1,2,v1,n5),(1,2,v2,v3),(1,0,.a v3 n5,n13),(1,3,v0,n10)] rfl y0.2 y1 y2 y3)
theorem l116 (xa xb xc xd xe xf:Nat) (y0:xb=xa+(xc+xd)) (y1:xc=xe+xf+2):(xa:Int)+1<(xb:Int):=bc (S [xb,xa,xc,xd,xe,xf] [] [(-1,2,v0,.a v1 (.a v2 v3)),(-1,2,v2,.a (.a v4 v5) n6),(1,9,.a (.c v1) n5,.c v0)] rfl y0 y1)
theorem l117 (xa xb:Nat) (xp:Int) (y0:xa<((xb:Int)+1-xp).toNat) (y1:(0≤xp)∧(xp≤(xb:Int))):(0≤xp+(xa:Int))∧(xp+(xa:Int)≤(xb:Int)):=⟨bc (S [xa] [xp] [(1,5,n4,v0),(1,8,n4,.a v0 (.c v0))] rfl y1.1), bc (S [xa,((xb:Int)+1-xp).toNat,xb] [xp] [(1,1,v0,v1),(1,7,.c v1,.s (.a (.c v2) n5) v0),(1,8,.a v0 (.c v0),.c v2)] rfl y0 (tnn (bc (S [xb] [xp] [(1,5,v0,.c v0),(1,8,n4,.s (.a (.c v0) n5) v0)] rfl y1.2))))⟩
theorem l118 (xa:Nat) :((xa:Int)+1-1).toNat=xa:=lN (bc (S [((xa:Int)+1-1).toNat,xa] [] [(1,7,.c v0,.s (.a (.c v1) n5) n5),(1,3,v0,v1)] rfl (tnn (bc (S [xa] [] [(1,8,n4,.s (.a (.c v0) n5) n5)] rfl))))) (bc (S [((xa:Int)+1-1).toNat,xa] [] [(-1,7,.c v0,.s (.a (.c v1) n5) n5),(1,3,v1,v0)] rfl (tnn (bc (S [xa] [] [(1,8,n4,.s (.a (.c v0) n5) n5)] rfl)))))
theorem l119 (xa xb xc:Nat) :((xa:Int)+(xb:Int)+(xc:Int)-((xa:Int)+(xb:Int))).toNat=xc:=lN (bc (S [((xa:Int)+(xb:Int)+(xc:Int)-((xa:Int)+(xb:Int))).toNat,xa,xb,xc] [] [(1,7,.c v0,.s (.a (.a (.c v1) (.c v2)) (.c v3)) (.a (.c v1) (.c v2))),(1,3,v0,v3)] rfl (tnn (bc (S [xa,xb,xc] [] [(1,8,n4,.s (.a (.a (.c v0) (.c v1)) (.c v2)) (.a (.c v0) (.c v1)))] rfl))))) (bc (S [((xa:Int)+(xb:Int)+(xc:Int)-((xa:Int)+(xb:Int))).toNat,xa,xb,xc] [] [(-1,7,.c v0,.s (.a (.a (.c v1) (.c v2)) (.c v3)) (.a (.c v1) (.c v2))),(1,3,v3,v0)] rfl (tnn (bc (S [xa,xb,xc] [] [(1,8,n4,.s (.a (.a (.c v0) (.c v1)) (.c v2)) (.a (.c v0) (.c v1)))] rfl)))))
theorem l120 (xa xb:Nat) (y0:xa≤xb) (y1:¬(xa<xb)):xa=xb:=lN (bc (S [xa,xb] [] [(1,0,v0,v1),(1,3,v0,v1)] rfl y0)) (bc (S [xa,xb] [] [(1,4,v0,v1),(1,3,v1,v0)] rfl y1))
theorem l121 (xa:Nat) (xp:Int) (y0:xp=((xa%1000%10:Nat):Int)):(xp<1000000000)∧(0≤xp):=⟨bc (S [xa%1000%10] [xp] [(1,7,v0,.c v0),(1,1,v0,n3),(1,9,v0,.k 1000000000)] rfl y0 (mdl (xa%1000) (10:Nat) rfl)), bc (S [xa%1000%10] [xp] [(-1,7,v0,.c v0),(1,8,n4,v0)] rfl y0)⟩
theorem l122 (xa xb xc:Nat) (y0:xc=xa+1) (y1:xc≤xb):xa-1<xb:=bc (S [xc,xa,xb,xa-1] [] [(-1,2,v0,.a v1 n5),(1,0,v0,v2),(1,0,v3,v1),(1,4,v3,v2)] rfl y0 y1 (nsl xa (1:Nat)))
theorem l123 (xa:Nat) (y0:72<xa) (y1:72=xa+1+1+1+1):False:=S [xa] [] [(1,1,n18,v0),(-1,2,n18,.a (.a (.a (.a v0 n5) n5) n5) n5)] rfl y0 y1
theorem l124 (xa:Nat) :xa%1000/100<10:=bc (S [xa%1000,xa%1000/100,xa%1000%100] [] [(1,1,v0,n14),(1,2,.a (.m 100 v1) v2,v0),(100,4,v1,n3)] rfl (mdl xa (1000:Nat) rfl) (dam (xa%1000) (100:Nat)))
theorem l125 (xa:Nat) :min 3 xa≤16777212:=bc (S [min 3 xa] [] [(1,0,v0,n9),(1,3,v0,.k 16777212)] rfl (mll (3:Nat) xa))
theorem l126 (xa:Nat) (y0:xa<1000000000):xa/1000<1000000000:=bc (S [xa,xa/1000,xa%1000] [] [(1,1,v0,.k 1000000000),(1,2,.a (.m 1000 v1) v2,v0),(1000,4,v1,.k 1000000000)] rfl y0 (dam xa (1000:Nat)))
theorem l127 (xa xb:Nat) (y0:48+xb%1000%10=xa):(48≤xa)∧(xa≤57):=⟨bc (S [xb%1000%10,xa] [] [(1,2,.a n11 v0,v1),(1,3,n11,v1)] rfl y0), bc (S [xb%1000%10,xa] [] [(-1,2,.a n11 v0,v1),(1,1,v0,n3),(1,3,v1,n0)] rfl y0 (mdl (xb%1000) (10:Nat) rfl))⟩
theorem l128 (xa xb xc xd:Nat) (y0:(xa≤xb+xc)∧(xb+xc≤xa)) (y1:xb=1) (y2:xc=xd) (y3:xd≤100):xa≤16777216:=bc (S [xa,xb,xc,xd] [] [(1,0,v0,.a v1 v2),(1,2,v1,n5),(1,2,v2,v3),(1,0,v3,n13),(1,3,v0,n10)] rfl y0.1 y1 y2 y3)
theorem l129 (xa:Nat) :(-1+((xa:Int)+1)).toNat=xa:=lN (bc (S [(-1+((xa:Int)+1)).toNat,xa] [] [(1,7,.c v0,.a (.g n5) (.a (.c v1) n5)),(1,3,v0,v1)] rfl (tnn (bc (S [xa] [] [(1,8,n4,.a (.g n5) (.a (.c v0) n5))] rfl))))) (bc (S [(-1+((xa:Int)+1)).toNat,xa] [] [(-1,7,.c v0,.a (.g n5) (.a (.c v1) n5)),(1,3,v1,v0)] rfl (tnn (bc (S [xa] [] [(1,8,n4,.a (.g n5) (.a (.c v0) n5))] rfl)))))
theorem l130 (xa xb:Nat) :(-1+((xa:Int)+(xb:Int)+1)-(xa:Int)).toNat=xb:=lN (bc (S [(-1+((xa:Int)+(xb:Int)+1)-(xa:Int)).toNat,xa,xb] [] [(1,7,.c v0,.s (.a (.g n5) (.a (.a (.c v1) (.c v2)) n5)) (.c v1)),(1,3,v0,v2)] rfl (tnn (bc (S [xa,xb] [] [(1,8,n4,.s (.a (.g n5) (.a (.a (.c v0) (.c v1)) n5)) (.c v0))] rfl))))) (bc (S [(-1+((xa:Int)+(xb:Int)+1)-(xa:Int)).toNat,xa,xb] [] [(-1,7,.c v0,.s (.a (.g n5) (.a (.a (.c v1) (.c v2)) n5)) (.c v1)),(1,3,v2,v0)] rfl (tnn (bc (S [xa,xb] [] [(1,8,n4,.s (.a (.g n5) (.a (.a (.c v0) (.c v1)) n5)) (.c v0))] rfl)))))
theorem l131 (xa xb:Nat) (y0:xa+10*5<5000) (y1:xb=9900):xa+3+64<xb:=bc (S [xa,xb] [] [(1,1,.a v0 (.m 10 n8),n15),(-1,2,v1,.k 9900),(1,4,.a (.a v0 n9) (.k 64),v1)] rfl y0 y1)
theorem l132 (xa:Nat) (y0:xa+1+1<500):xa<1000:=bc (S [xa] [] [(1,1,.a (.a v0 n5) n5,n16),(1,4,v0,n14)] rfl y0)
theorem l133 (xa:Nat) (y0:xa+3+1<500):xa+1+1+1<500:=bc (S [xa] [] [(1,1,.a (.a v0 n9) n5,n16),(1,4,.a (.a (.a v0 n5) n5) n5,n16)] rfl y0)
theorem l134 (xa:Nat) (y0:xa<1):xa=0:=lN (bc (S [xa] [] [(1,1,v0,n5),(1,3,v0,n4)] rfl y0)) (bc (S [xa] [] [(1,3,n4,v0)] rfl))
theorem l135 (xa xb xc:Nat) (xp:Int) (y0:(0≤xp)∧(xp≤(xb:Int))) (y1:xp+(xc:Int)=(xa:Int)) (y2:xc<((xb:Int)+1-xp).toNat):xa≤xb:=bc (S [xc,xa,((xb:Int)+1-xp).toNat,xb] [xp] [(-1,7,.a v0 (.c v0),.c v1),(1,1,v0,v2),(1,7,.c v2,.s (.a (.c v3) n5) v0),(1,3,v1,v3)] rfl y1 y2 (tnn (bc (S [xb] [xp] [(1,5,v0,.c v0),(1,8,n4,.s (.a (.c v0) n5) v0)] rfl y0.2))))
theorem l136 (xa xb xc:Nat) (y0:xa=1) (y1:xb=xc) (y2:xc+1≤100):xa+xb≤16777216:=bc (S [xa,xb,xc] [] [(1,2,v0,n5),(1,2,v1,v2),(1,0,.a v2 n5,n13),(1,3,.a v0 v1,n10)] rfl y0 y1 y2)
theorem l137 (xa xb:Nat) (xA:Prop) (y0:(xa=xb)∧(xA)):xa=xb:=y0.1
theorem l138 (xa xb:Nat) (y0:xb=xa):(xa:Int)=(xb:Int):=lI (bc (S [xb,xa] [] [(-1,2,v0,v1),(1,8,.c v1,.c v0)] rfl y0)) (bc (S [xb,xa] [] [(1,2,v0,v1),(1,8,.c v0,.c v1)] rfl y0))
theorem l139 (xa:Nat) :0*10+(48+xa-48)=xa:=lN (bc (S [48+xa-48,xa] [] [(1,2,.a v0 n11,.a n11 v1),(1,3,.a (.m 0 n3) v0,v1)] rfl (sac (bc (S [xa] [] [(1,3,n11,.a n11 v0)] rfl))))) (bc (S [48+xa-48,xa] [] [(-1,2,.a v0 n11,.a n11 v1),(1,3,v1,.a (.m 0 n3) v0)] rfl (sac (bc (S [xa] [] [(1,3,n11,.a n11 v0)] rfl)))))
theorem l140 (xa:Nat) (y0:xa≤63):xa≤16777216:=bc (S [xa] [] [(1,0,v0,.k 63),(1,3,v0,n10)] rfl y0)
theorem l141 (xp:Int) (y0:(0≤xp)∧(xp≤9)):(-9223372036854775808≤xp)∧(xp<9223372036854775808):=⟨bc (S [] [xp] [(1,5,n4,v0),(1,8,.g n12,v0)] rfl y0.1), bc (S [] [xp] [(1,5,v0,n2),(1,9,v0,n12)] rfl y0.2)⟩
theorem l142 (xa xb xc xd xe xf:Nat) (xA:Prop) (y0:(48+xa≤xd)∧(xd≤48+xc)) (y1:(48+xb=xd)∧((48+xe=xf)∧(xA))):(xa≤xb)∧(xb≤xc):=⟨bc (S [xa,xd,xb] [] [(1,0,.a n11 v0,v1),(-1,2,.a n11 v2,v1),(1,3,v0,v2)] rfl y0.1 y1.1), bc (S [xd,xc,xb] [] [(1,0,v0,.a n11 v1),(1,2,.a n11 v2,v0),(1,3,v2,v1)] rfl y0.2 y1.1)⟩
theorem l143 (xa:Nat) (y0:xa+8<500):xa+1<1000:=bc (S [xa] [] [(1,1,.a v0 (.k 8),n16),(1,4,.a v0 n5,n14)] rfl y0)
theorem l144 (xa xb xc xd:Nat) (y0:xa=107) (y1:(xb<xa)∧((100<xa)∧((xc<xa)∧((107<xa)∧(xd<xa))))):False:=S [xa] [] [(1,2,v0,n19),(1,1,n19,v0)] rfl y0 y1.2.2.2.1
theorem l145 (xa:Nat) :xa%1000%10≤9:=bc (S [xa%1000%10] [] [(1,1,v0,n3),(1,3,v0,n2)] rfl (mdl (xa%1000) (10:Nat) rfl))
theorem l146 (xa xb xc xd xe xf:Nat) (xp:Int) (y0:xp=(xa:Int)+1+((xb-xc:Nat):Int)) (y1:xc≤xb) (y2:xd=0+xb+2) (y3:xe=xa+(xd+xf)) (y4:xe≤50):(-9223372036854775808≤xp)∧(xp<9223372036854775808):=⟨bc (S [xa,xb-xc] [xp] [(-1,7,v0,.a (.a (.c v0) n5) (.c v1)),(1,8,.g n12,v0)] rfl y0), bc (S [xa,xb-xc,xd,xb,xe,xf,xc] [xp] [(1,7,v0,.a (.a (.c v0) n5) (.c v1)),(-1,2,v2,.a (.a n4 v3) n6),(-1,2,v4,.a v0 (.a v2 v5)),(1,0,v4,.k 50),(1,2,.a v1 v6,v3),(1,9,v0,n12)] rfl y0 y2 y3 y4 (sac (bc (S [xc,xb] [] [(1,0,v0,v1),(1,3,v0,v1)] rfl y1))))⟩
theorem l147 (xa xb xc:Nat) (y0:xa+xc≤xb):xa≤xb:=bc (S [xa,xc,xb] [] [(1,0,.a v0 v1,v2),(1,3,v0,v2)] rfl y0)
theorem l148 (xa xb xc xd xe:Nat) (xp:Int) (y0:xp=(xa:Int)+5) (y1:xp=(xa:Int)+1+1+((xc-0:Nat):Int)) (y2:xd=1+xc+2) (y3:xb=xa+(xd+xe)):xa+5≤xb:=bc (S [xa,xc-0,xd,xc,xb,xe] [xp] [(-1,7,v0,.a (.c v0) n8),(1,7,v0,.a (.a (.a (.c v0) n5) n5) (.c v1)),(-1,2,v2,.a (.a n5 v3) n6),(-1,2,v4,.a v0 (.a v2 v5)),(1,2,.a v1 n4,v3),(1,3,.a v0 n8,v4)] rfl y0 y1 y2 y3 (sac (bc (S [xc] [] [(1,3,n4,v0)] rfl))))
theorem l149 (xa:Nat) :(0≤((xa%1000%10:Nat):Int))∧(((xa%1000%10:Nat):Int)≤9):=⟨bc (S [xa%1000%10] [] [(1,8,n4,.c v0)] rfl), bc (S [xa%1000%10] [] [(1,1,v0,n3),(1,8,.c v0,n2)] rfl (mdl (xa%1000) (10:Nat) rfl))⟩
theorem l150 (xa:Nat) :xa%1000/100≤9:=bc (S [xa%1000,xa%1000/100,xa%1000%100] [] [(1,1,v0,n14),(1,2,.a (.m 100 v1) v2,v0),(100,3,v1,n2)] rfl (mdl xa (1000:Nat) rfl) (dam (xa%1000) (100:Nat)))
theorem l151 (xa:Nat) :9<(xa+1000)/10/10:=bc (S [(xa+1000)/10,(xa+1000)%10,xa,(xa+1000)/10/10,(xa+1000)/10%10] [] [(-1,2,.a (.m 10 v0) v1,.a v2 n14),(1,1,v1,n3),(-10,2,.a (.m 10 v3) v4,v0),(10,1,v4,n3),(100,4,n2,v3)] rfl (dam (xa+1000) (10:Nat)) (mdl (xa+1000) (10:Nat) rfl) (dam ((xa+1000)/10) (10:Nat)) (mdl ((xa+1000)/10) (10:Nat) rfl))
theorem l152 (xa:Nat) (xp:Int) (y0:(0≤xp)∧(xp≤(xa:Int))) (y1:xp<(xa:Int)):xp.toNat<xa:=bc (S [xa,xp.toNat] [xp] [(1,6,v0,.c v0),(1,7,.c v1,v0),(1,4,v1,v0)] rfl y1 (tnn (bc (S [] [xp] [(1,5,n4,v0),(1,8,n4,v0)] rfl y0.1))))
theorem l153 (xa:Nat) (y0:9<xa):xa/10<xa:=bc (S [xa,xa/10,xa%10] [] [(9,1,n2,v0),(1,2,.a (.m 10 v1) v2,v0),(10,4,v1,v0)] rfl y0 (dam xa (10:Nat)))
theorem l154 (xa:Nat) (xp:Int) (y0:xp=(xa:Int)+5):xp.toNat=xa+5:=lN (bc (S [xa,xp.toNat] [xp] [(1,7,v0,.a (.c v0) n8),(1,7,.c v1,v0),(1,3,v1,.a v0 n8)] rfl y0 (tnn (bc (S [xa] [xp] [(-1,7,v0,.a (.c v0) n8),(1,8,n4,v0)] rfl y0))))) (bc (S [xa,xp.toNat] [xp] [(-1,7,v0,.a (.c v0) n8),(-1,7,.c v1,v0),(1,3,.a v0 n8,v1)] rfl y0 (tnn (bc (S [xa] [xp] [(-1,7,v0,.a (.c v0) n8),(1,8,n4,v0)] rfl y0)))))
theorem l155 (xa xb:Nat) (y0:xb+1≤xa):xa=xa-1+1:=lN (bc (S [xa-1,xa] [] [(-1,2,.a v0 n5,v1),(1,3,v1,.a v0 n5)] rfl (sac (bc (S [xb,xa] [] [(1,0,.a v0 n5,v1),(1,3,n5,v1)] rfl y0))))) (bc (S [xa-1,xa] [] [(1,2,.a v0 n5,v1),(1,3,.a v0 n5,v1)] rfl (sac (bc (S [xb,xa] [] [(1,0,.a v0 n5,v1),(1,3,n5,v1)] rfl y0)))))
theorem l156 (xa xb:Nat) (y0:xb<xa+1):xa=xb+(xa-xb):=lN (bc (S [xa-xb,xb,xa] [] [(-1,2,.a v0 v1,v2),(1,3,v2,.a v1 v0)] rfl (sac (bc (S [xb,xa] [] [(1,1,v0,.a v1 n5),(1,3,v0,v1)] rfl y0))))) (bc (S [xa-xb,xb,xa] [] [(1,2,.a v0 v1,v2),(1,3,.a v1 v0,v2)] rfl (sac (bc (S [xb,xa] [] [(1,1,v0,.a v1 n5),(1,3,v0,v1)] rfl y0)))))
theorem l157 (xa:Nat) (xp:Int) (y0:xp=((xa%1000/10%10:Nat):Int)):(xp<1000000000)∧(0≤xp):=⟨bc (S [xa%1000/10%10] [xp] [(1,7,v0,.c v0),(1,1,v0,n3),(1,9,v0,.k 1000000000)] rfl y0 (mdl (xa%1000/10) (10:Nat) rfl)), bc (S [xa%1000/10%10] [xp] [(-1,7,v0,.c v0),(1,8,n4,v0)] rfl y0)⟩
theorem l158 (xa:Nat) (y0:xa<1048576):xa/1024<1024:=bc (S [xa,xa/1024,xa%1024] [] [(1,1,v0,.k 1048576),(1,2,.a (.m 1024 v1) v2,v0),(1024,4,v1,.k 1024)] rfl y0 (dam xa (1024:Nat)))
theorem l159 (xa xb:Nat) (xp:Int) (y0:(xa:Int)=xp+1) (y1:(0≤xp)∧(xp≤(xb:Int))):xp=((xa-1:Nat):Int):=lI (bc (S [xa,xa-1] [xp] [(-1,7,.c v0,.a v0 n5),(-1,2,.a v1 n5,v0),(1,8,v0,.c v1)] rfl y0 (sac (bc (S [xa] [xp] [(-1,7,.c v0,.a v0 n5),(1,5,n4,v0),(1,3,n5,v0)] rfl y0 y1.1))))) (bc (S [xa,xa-1] [xp] [(1,7,.c v0,.a v0 n5),(1,2,.a v1 n5,v0),(1,8,.c v1,v0)] rfl y0 (sac (bc (S [xa] [xp] [(-1,7,.c v0,.a v0 n5),(1,5,n4,v0),(1,3,n5,v0)] rfl y0 y1.1)))))
theorem l160 (xa:Nat) :0≤(xa:Int)+3+3:=bc (S [xa] [] [(1,8,n4,.a (.a (.c v0) n9) n9)] rfl)
theorem l161 (xa:Nat) (y0:1≤xa):(xa:Int)=((xa-1:Nat):Int)+1:=lI (bc (S [xa-1,xa] [] [(-1,2,.a v0 n5,v1),(1,8,.c v1,.a (.c v0) n5)] rfl (sac (bc (S [xa] [] [(1,0,n5,v0),(1,3,n5,v0)] rfl y0))))) (bc (S [xa-1,xa] [] [(1,2,.a v0 n5,v1),(1,8,.a (.c v0) n5,.c v1)] rfl (sac (bc (S [xa] [] [(1,0,n5,v0),(1,3,n5,v0)] rfl y0)))))
theorem l162 (xa:Nat) :1≤xa+1+1+1+1+1:=bc (S [xa] [] [(1,3,n5,.a (.a (.a (.a (.a v0 n5) n5) n5) n5) n5)] rfl)
theorem l163 (xa xb xc xd xe:Nat) (y0:xb=xa+(xc+xd)) (y1:xc=1+xe+2):(xa:Int)+1+1<(xb:Int):=bc (S [xb,xa,xc,xd,xe] [] [(-1,2,v0,.a v1 (.a v2 v3)),(-1,2,v2,.a (.a n5 v4) n6),(1,9,.a (.a (.c v1) n5) n5,.c v0)] rfl y0 y1)
theorem l164 (xa xb:Nat) (y0:xa≤1000) (y1:xb≤1000):xa+(xb+0)+(0+1+1)≤1048576:=bc (S [xa,xb] [] [(1,0,v0,n14),(1,0,v1,n14),(1,3,.a (.a v0 (.a v1 n4)) (.a (.a n4 n5) n5),.k 1048576)] rfl y0 y1)
theorem l165 (xa xb:Nat) (y0:xb≥xa):xa+(xb-xa)=xb:=lN (bc (S [xb-xa,xa,xb] [] [(1,2,.a v0 v1,v2),(1,3,.a v1 v0,v2)] rfl (sac (bc (S [xa,xb] [] [(1,0,v0,v1),(1,3,v0,v1)] rfl y0))))) (bc (S [xb-xa,xa,xb] [] [(-1,2,.a v0 v1,v2),(1,3,v2,.a v1 v0)] rfl (sac (bc (S [xa,xb] [] [(1,0,v0,v1),(1,3,v0,v1)] rfl y0)))))
theorem l166 (xa xb:Nat) (y0:xa=xb) (y1:1≤xb):1≤xa:=bc (S [xa,xb] [] [(-1,2,v0,v1),(1,0,n5,v1),(1,3,n5,v0)] rfl y0 y1)
theorem l167 (xa xb:Nat) :(xa:Int)+1+1+(xb:Int)+1=(xa:Int)+(1+(xb:Int)+2):=lI (bc (S [xa,xb] [] [(1,8,.a (.a (.a (.a (.c v0) n5) n5) (.c v1)) n5,.a (.c v0) (.a (.a n5 (.c v1)) n6))] rfl)) (bc (S [xa,xb] [] [(1,8,.a (.c v0) (.a (.a n5 (.c v1)) n6),.a (.a (.a (.a (.c v0) n5) n5) (.c v1)) n5)] rfl))
theorem l168 (xa xb xc xd:Nat) (y0:48+xa=xb) (y1:(xb<48+xc)∨(48+xd<xb)) (y2:(xc≤xa)∧(xa≤xd)):False:=y1.elim (fun j0=>S [xa,xb,xc] [] [(1,2,.a n11 v0,v1),(1,0,v2,v0),(1,1,v1,.a n11 v2)] rfl y0 y2.1 j0) (fun j0=>S [xa,xb,xd] [] [(-1,2,.a n11 v0,v1),(1,0,v0,v2),(1,1,.a n11 v2,v1)] rfl y0 y2.2 j0)
theorem l169 (xp:Int) (y0:(0≤xp)∧(xp<1024000)):xp/1000<1024:=bc (S [] [xp,xp/1000,xp%1000] [(1,6,v0,.k 1024000),(1,7,.a (.m 1000 v1) v2,v0),(1,5,n4,v2),(1000,9,v1,.k 1024)] rfl y0.2 (mde xp (1000:Int)) (im0 xp (1000:Int) rfl))
theorem l170 (xa xb xc:Nat) (y0:xa+(xb+1)=xc):xa+1+xb=xc:=lN (bc (S [xa,xb,xc] [] [(1,2,.a v0 (.a v1 n5),v2),(1,3,.a (.a v0 n5) v1,v2)] rfl y0)) (bc (S [xa,xb,xc] [] [(-1,2,.a v0 (.a v1 n5),v2),(1,3,v2,.a (.a v0 n5) v1)] rfl y0))
theorem l171 (xa xb xc:Nat) (y0:xa≤10) (y1:xb≤10) (y2:xc≤10):xa+xb+xc+1≤1000:=bc (S [xa,xb,xc] [] [(1,0,v0,n3),(1,0,v1,n3),(1,0,v2,n3),(1,3,.a (.a (.a v0 v1) v2) n5,n14)] rfl y0 y1 y2)
theorem l172 (xa xb xc xd:Nat) (y0:xa≤xc) (y1:xc-xa=xb+xd):xa+xb≤xc:=bc (S [xc-xa,xb,xd,xa,xc] [] [(-1,2,v0,.a v1 v2),(1,2,.a v0 v3,v4),(1,3,.a v3 v1,v4)] rfl y1 (sac (bc (S [xa,xc] [] [(1,0,v0,v1),(1,3,v0,v1)] rfl y0))))
theorem l173 (xa xb xc:Nat) (y0:¬((xa=xb)∨(xc=xb))):(¬(xa=xb))∧(¬(xc=xb)):=⟨fun i0=>(nN ((fun x=>y0 (.inl x)))).elim (fun j1=>S [xa,xb] [] [(-1,2,v0,v1),(1,1,v0,v1)] rfl i0 j1) (fun j1=>S [xa,xb] [] [(1,2,v0,v1),(1,1,v1,v0)] rfl i0 j1), fun i0=>(nN ((fun x=>y0 (.inl x)))).elim (fun j1=>(nN ((fun x=>y0 (.inr x)))).elim (fun j2=>S [xc,xb] [] [(-1,2,v0,v1),(1,1,v0,v1)] rfl i0 j2) (fun j2=>S [xc,xb] [] [(1,2,v0,v1),(1,1,v1,v0)] rfl i0 j2)) (fun j1=>(nN ((fun x=>y0 (.inr x)))).elim (fun j2=>S [xc,xb] [] [(-1,2,v0,v1),(1,1,v0,v1)] rfl i0 j2) (fun j2=>S [xc,xb] [] [(1,2,v0,v1),(1,1,v1,v0)] rfl i0 j2))⟩
theorem l174 (xa xb:Nat) (y0:xa<xb):xa+1-xb=0:=sez (bc (S [xa,xb] [] [(1,1,v0,v1),(1,3,.a v0 n5,v1)] rfl y0))
theorem l175 (xa:Nat) (y0:(48≤xa)∧(xa≤57)) (y1:xa=47):False:=S [xa] [] [(1,0,n11,v0),(1,2,v0,n1)] rfl y0.1 y1
theorem l177 (xa xb:Nat) (y0:xa≤63) (y1:xb=min 3 xa) (y2:xb≤xa):min 3 xa+(0+1+1+1+1)≤16777216:=bc (S [xa,xb,min 3 xa] [] [(1,0,v0,.k 63),(-1,2,v1,v2),(1,0,v1,v0),(1,3,.a v2 (.a (.a (.a (.a n4 n5) n5) n5) n5),n10)] rfl y0 y1 y2)
theorem l178 (xa xb xc:Nat) (y0:(xa+1+1+1+1<xb)∧((xa+1+1+1<xb)∧((xa+1+1<xb)∧((xa+1<xb)∧(72<xb))))) (y1:xb<xc) (y2:xc=xa+1+1+1):False:=S [xa,xb,xc] [] [(1,1,.a (.a (.a (.a v0 n5) n5) n5) n5,v1),(1,1,v1,v2),(1,2,v2,.a (.a (.a v0 n5) n5) n5)] rfl y0.1 y1 y2
theorem l179 (xa:Nat) (xp:Int) (y0:(0≤xp)∧(xp≤(xa:Int))) (y1:xp<(xa:Int)) (y2:xa≤100):(-9223372036854775808≤xp)∧(xp<9223372036854775808):=⟨bc (S [] [xp] [(1,5,n4,v0),(1,8,.g n12,v0)] rfl y0.1), bc (S [xa] [xp] [(1,6,v0,.c v0),(1,0,v0,n13),(1,9,v0,n12)] rfl y1 y2)⟩
theorem l180 (xa xb:Nat) (y0:xa≤xb) (y1:xb≤63):xa<2^62:=bc (S [xa,xb] [] [(1,0,v0,v1),(1,0,v1,.k 63),(1,4,v0,.k 4611686018427387904)] rfl y0 y1)
theorem l183 (xa xb xc:Nat) (y0:xb≤xc) (y1:xa+10*xc<5000):xa+10*xb<5000:=bc (S [xb,xc,xa] [] [(10,0,v0,v1),(1,1,.a v2 (.m 10 v1),n15),(1,4,.a v2 (.m 10 v0),n15)] rfl y0 y1)
theorem l185 (xa xb:Nat) (y0:1+xa=xb+(3+1)+1) (y1:xb≤6):xa≤3000:=bc (S [xa,xb] [] [(1,2,.a n5 v0,.a (.a v1 (.a n9 n5)) n5),(1,0,v1,.k 6),(1,3,v0,.k 3000)] rfl y0 y1)
theorem l186 (xa:Nat) (xp:Int) (y0:(0≤xp)∧(xp≤(xa:Int))):((xa:Int)+1-xp).toNat≤xa+1:=bc (S [((xa:Int)+1-xp).toNat,xa] [xp] [(1,5,n4,v0),(1,7,.c v0,.s (.a (.c v1) n5) v0),(1,3,v0,.a v1 n5)] rfl y0.1 (tnn (bc (S [xa] [xp] [(1,5,v0,.c v0),(1,8,n4,.s (.a (.c v0) n5) v0)] rfl y0.2))))
theorem l187 (xa:Nat) (y0:xa≤1000):(xa:Int)<9223372036854775808:=bc (S [xa] [] [(1,0,v0,n14),(1,9,.c v0,n12)] rfl y0)
theorem l188 (xa:Nat) (xp:Int) (y0:xp=(xa:Int)%10):(0≤xp)∧(xp≤9):=⟨bc (S [] [xp,(xa:Int)%10] [(-1,7,v0,v1),(1,5,n4,v1),(1,8,n4,v0)] rfl y0 (im0 (xa:Int) (10:Int) rfl)), bc (S [] [xp,(xa:Int)%10] [(1,7,v0,v1),(1,6,v1,n3),(1,8,v0,n2)] rfl y0 (im1 (xa:Int) (10:Int) rfl))⟩
theorem l190 (xa:Nat) :(0≤((xa%1000/10%10:Nat):Int))∧(((xa%1000/10%10:Nat):Int)≤9):=⟨bc (S [xa%1000/10%10] [] [(1,8,n4,.c v0)] rfl), bc (S [xa%1000/10%10] [] [(1,1,v0,n3),(1,8,.c v0,n2)] rfl (mdl (xa%1000/10) (10:Nat) rfl))⟩
theorem l191 (xa xb xc xd:Nat) (y0:xb=xa+(xc+xd)) (y1:xb≤50):(xa:Int)<9223372036854775808:=bc (S [xb,xa,xc,xd] [] [(-1,2,v0,.a v1 (.a v2 v3)),(1,0,v0,.k 50),(1,9,.c v1,n12)] rfl y0 y1)
theorem l192 (xa xb xc xd:Nat) (y0:xa≤xb) (y1:xb≤xc) (y2:xc≤xd) (y3:xd≤50):xa≤100:=bc (S [xa,xb,xc,xd] [] [(1,0,v0,v1),(1,0,v1,v2),(1,0,v2,v3),(1,0,v3,.k 50),(1,3,v0,n13)] rfl y0 y1 y2 y3)
theorem l193 (xa xb:Nat) (y0:(48≤xa)∧(xa≤57)) (y1:xb=xa) (y2:xb=45):False:=S [xa,xb] [] [(1,0,n11,v0),(-1,2,v1,v0),(1,2,v1,.k 45)] rfl y0.1 y1 y2
theorem l194 (xa xb xc xd:Nat) (y0:107=xa) (y1:(xb<xa)∧((100<xa)∧((xc<xa)∧((107<xa)∧(xd<xa))))):False:=S [xa] [] [(-1,2,n19,v0),(1,1,n19,v0)] rfl y0 y1.2.2.2.1
theorem l195 (xa:Nat) (y0:xa+1=xa+1+1+1+1):False:=S [xa] [] [(-1,2,.a v0 n5,.a (.a (.a (.a v0 n5) n5) n5) n5)] rfl y0
theorem l196 (xa xb:Nat) (y0:xa≤xb) (y1:xb-xa=0):xa=xb:=lN (bc (S [xa,xb] [] [(1,0,v0,v1),(1,3,v0,v1)] rfl y0)) (bc (S [xb-xa,xa,xb] [] [(1,2,v0,n4),(-1,2,.a v0 v1,v2),(1,3,v2,v1)] rfl y1 (sac (bc (S [xa,xb] [] [(1,0,v0,v1),(1,3,v0,v1)] rfl y0)))))
theorem l198 (xp xq:Int) (y0:(0≤xq)∧(xq<1024)) (y1:(0≤xp)∧(xp<1024)):xp*1024+xq<1048576:=bc (S [] [xq,xp] [(1,6,v0,.k 1024),(1024,6,v1,.k 1024),(1,9,.a (.r v1 1024) v0,.k 1048576)] rfl y0.2 y1.2)
theorem l200 (xa:Nat) :xa%1000%10<10:=bc (S [xa%1000%10] [] [(1,1,v0,n3),(1,4,v0,n3)] rfl (mdl (xa%1000) (10:Nat) rfl))
theorem l201 (xa:Nat) (y0:xa≤2) (y1:(xa:Int)=3):False:=S [xa] [] [(1,0,v0,n6),(-1,7,.c v0,n9)] rfl y0 y1
theorem l202 (xp:Int) :(xp%10).toNat<10:=bc (S [(xp%10).toNat] [xp%10] [(1,6,v0,n3),(1,7,.c v0,v0),(1,4,v0,n3)] rfl (im1 xp (10:Int) rfl) (tnn (bc (S [] [xp%10] [(1,5,n4,v0),(1,8,n4,v0)] rfl (im0 xp (10:Int) rfl)))))
theorem l203 (xa xb xc xd xe:Nat) (y0:xa+1=xb) (y1:(xc<xb)∧((xd<xb)∧((xe<xb)∧((xa+1+1<xb)∧(xa+1<xb))))):False:=S [xa,xb] [] [(-1,2,.a v0 n5,v1),(1,1,.a (.a v0 n5) n5,v1)] rfl y0 y1.2.2.2.1
theorem l204 :(0+1+1+1+1:Nat)≤16777216:=bc (S [] [] [(1,3,.a (.a (.a (.a n4 n5) n5) n5) n5,n10)] rfl)
theorem l205 (xa:Nat) (y0:xa+10*(3+1)<5000):xa+3+10*(1+1)<5000:=bc (S [xa] [] [(1,1,.a v0 (.m 10 (.a n9 n5)),n15),(1,4,.a (.a v0 n9) (.m 10 (.a n5 n5)),n15)] rfl y0)
theorem l206 (xa xb:Nat) (y0:xa<xb):xa+1≤xb:=bc (S [xa,xb] [] [(1,1,v0,v1),(1,3,.a v0 n5,v1)] rfl y0)
theorem l207 (xa:Nat) (y0:xa+10*8<5000):xa+3+10*2<5000:=bc (S [xa] [] [(1,1,.a v0 (.m 10 (.k 8)),n15),(1,4,.a (.a v0 n9) (.m 10 n6),n15)] rfl y0)
theorem l208 (xa:Nat) :-(xa:Int)≤0:=bc (S [xa] [] [(1,8,.g (.c v0),n4)] rfl)
theorem l209 (xp:Int) :(0≤xp%1000)∧(xp%1000≤999):=⟨bc (S [] [xp%1000] [(1,5,n4,v0),(1,8,n4,v0)] rfl (im0 xp (1000:Int) rfl)), bc (S [] [xp%1000] [(1,6,v0,n14),(1,8,v0,.k 999)] rfl (im1 xp (1000:Int) rfl))⟩
theorem l210 (xa:Nat) (y0:xa+2+1<500):xa<1000:=bc (S [xa] [] [(1,1,.a (.a v0 n6) n5,n16),(1,4,v0,n14)] rfl y0)
theorem l212 (xa:Nat) :((xa/1000*1000+xa%1000:Nat):Int)=(xa:Int):=lI (bc (S [xa/1000,xa%1000,xa] [] [(1,2,.a (.m 1000 v0) v1,v2),(1,8,.c (.a (.r v0 1000) v1),.c v2)] rfl (dam xa (1000:Nat)))) (bc (S [xa/1000,xa%1000,xa] [] [(-1,2,.a (.m 1000 v0) v1,v2),(1,8,.c v2,.c (.a (.r v0 1000) v1))] rfl (dam xa (1000:Nat))))
theorem l213 (xa xb xc:Nat) (y0:xa≤xb) (y1:xb-xa=xc+1):xa<xb:=bc (S [xb-xa,xc,xa,xb] [] [(-1,2,v0,.a v1 n5),(1,2,.a v0 v2,v3),(1,4,v2,v3)] rfl y1 (sac (bc (S [xa,xb] [] [(1,0,v0,v1),(1,3,v0,v1)] rfl y0))))
theorem l214 (xa xb xc:Nat) :(xa:Int)+1+1+((xb-(xc+1):Nat):Int)=(xa:Int)+((2+(xb-(xc+1)):Nat):Int):=lI (bc (S [xa,xb-(xc+1)] [] [(1,8,.a (.a (.a (.c v0) n5) n5) (.c v1),.a (.c v0) (.c (.a n6 v1)))] rfl)) (bc (S [xa,xb-(xc+1)] [] [(1,8,.a (.c v0) (.c (.a n6 v1)),.a (.a (.a (.c v0) n5) n5) (.c v1))] rfl))
theorem l215 (xa:Nat) :(xa:Int)+5=(xa:Int)+3+1+1:=lI (bc (S [xa] [] [(1,8,.a (.c v0) n8,.a (.a (.a (.c v0) n9) n5) n5)] rfl)) (bc (S [xa] [] [(1,8,.a (.a (.a (.c v0) n9) n5) n5,.a (.c v0) n8)] rfl))
theorem l216 (xa xb xc xd xe:Nat) (y0:xa+1+1=xb) (y1:(xc<xb)∧((xd<xb)∧((xe<xb)∧((xa+1+1<xb)∧(xa+1<xb))))):False:=S [xa,xb] [] [(-1,2,.a (.a v0 n5) n5,v1),(1,1,.a (.a v0 n5) n5,v1)] rfl y0 y1.2.2.2.1
theorem l217 (xa:Nat) :0≤(xa:Int)+2:=bc (S [xa] [] [(1,8,n4,.a (.c v0) n6)] rfl)
theorem l218 (xa:Nat) :xa%1000/10%10≤9:=bc (S [xa%1000/10%10] [] [(1,1,v0,n3),(1,3,v0,n2)] rfl (mdl (xa%1000/10) (10:Nat) rfl))
theorem l219 (xa xb:Nat) :(xa:Int)+1+(xb:Int)+1=(xa:Int)+((xb:Int)+2):=lI (bc (S [xa,xb] [] [(1,8,.a (.a (.a (.c v0) n5) (.c v1)) n5,.a (.c v0) (.a (.c v1) n6))] rfl)) (bc (S [xa,xb] [] [(1,8,.a (.c v0) (.a (.c v1) n6),.a (.a (.a (.c v0) n5) (.c v1)) n5)] rfl))
theorem l220 (xa xb xc:Nat) (y0:¬(48+xa=xb)) (y1:48+xc=xb) (y2:xc=xa):False:=(nN (y0)).elim (fun j0=>S [xc,xb,xa] [] [(-1,2,.a n11 v0,v1),(1,2,v0,v2),(1,1,.a n11 v2,v1)] rfl y1 y2 j0) (fun j0=>S [xc,xb,xa] [] [(1,2,.a n11 v0,v1),(-1,2,v0,v2),(1,1,v1,.a n11 v2)] rfl y1 y2 j0)
theorem l221 (xa xb xc:Nat) (y0:(xa≤6)∧((1≤xa)∧((xb=3)∧(xc≤11)))):1+xa≤16777216:=bc (S [xa] [] [(1,0,v0,.k 6),(1,3,.a n5 v0,n10)] rfl y0.1)
theorem l222 (xa:Nat) (y0:xa+8<500):xa+1+2<500:=bc (S [xa] [] [(1,1,.a v0 (.k 8),n16),(1,4,.a (.a v0 n5) n6,n16)] rfl y0)
theorem l223 (xp:Int) (y0:(0≤xp)∧(xp≤999)):-(2^64)<xp:=bc (S [] [xp] [(1,5,n4,v0),(1,9,.g (.k 18446744073709551616),v0)] rfl y0.1)
theorem l224 (xp:Int) (y0:(0≤xp)∧(xp≤9)):-((10:Nat):Int)≤xp:=bc (S [] [xp] [(1,5,n4,v0),(1,8,.g (.c n3),v0)] rfl y0.1)
theorem l225 (xa:Nat) :(xa:Int)+1+1+3+1=(xa:Int)+6:=lI (bc (S [xa] [] [(1,8,.a (.a (.a (.a (.c v0) n5) n5) n9) n5,.a (.c v0) (.k 6))] rfl)) (bc (S [xa] [] [(1,8,.a (.c v0) (.k 6),.a (.a (.a (.a (.c v0) n5) n5) n9) n5)] rfl))
theorem l226 (xa xb:Nat) (y0:xa≤xb+1) (y1:xb≤100):xa≤16777216:=bc (S [xa,xb] [] [(1,0,v0,.a v1 n5),(1,0,v1,n13),(1,3,v0,n10)] rfl y0 y1)
theorem l228 (xa xb xc xd xe:Nat) (y0:xb+xc≤xd):(xa:Int)+(xb:Int)+(xc:Int)≤(xa:Int)+((xd:Int)+(xe:Int)):=bc (S [xb,xc,xd,xa,xe] [] [(1,0,.a v0 v1,v2),(1,8,.a (.a (.c v3) (.c v0)) (.c v1),.a (.c v3) (.a (.c v2) (.c v4)))] rfl y0)
theorem l229 (xa xb xc:Nat) (y0:(47=48+xa)∨(47=48+xc)):xa=xb:=lN (y0.elim (fun j0=>bc fun k1=>S [xa] [] [(-1,2,n1,.a n11 v0)] rfl j0) (fun j0=>bc fun k1=>S [xc] [] [(-1,2,n1,.a n11 v0)] rfl j0)) (y0.elim (fun j0=>bc fun k1=>S [xa] [] [(-1,2,n1,.a n11 v0)] rfl j0) (fun j0=>bc fun k1=>S [xc] [] [(-1,2,n1,.a n11 v0)] rfl j0))
theorem l230 (xa xb:Nat) (y0:xa<10^xb*10):xa/10<10^xb:=bc (S [xa,10^xb,xa/10,xa%10] [] [(1,1,v0,.r v1 10),(1,2,.a (.m 10 v2) v3,v0),(10,4,v2,v1)] rfl y0 (dam xa (10:Nat)))
theorem l231 (xa:Nat) :9<(xa+1000)/10:=bc (S [(xa+1000)/10,(xa+1000)%10,xa] [] [(-1,2,.a (.m 10 v0) v1,.a v2 n14),(1,1,v1,n3),(10,4,n2,v0)] rfl (dam (xa+1000) (10:Nat)) (mdl (xa+1000) (10:Nat) rfl))
theorem l232 (xa:Nat) (y0:xa≤10):0+1+xa≤16777216:=bc (S [xa] [] [(1,0,v0,n3),(1,3,.a (.a n4 n5) v0,n10)] rfl y0)
theorem l233 (xa xb:Nat) :(xa:Int)+1+1+(xb:Int)=(xa:Int)+1+((xb:Int)+1):=lI (bc (S [xa,xb] [] [(1,8,.a (.a (.a (.c v0) n5) n5) (.c v1),.a (.a (.c v0) n5) (.a (.c v1) n5))] rfl)) (bc (S [xa,xb] [] [(1,8,.a (.a (.c v0) n5) (.a (.c v1) n5),.a (.a (.a (.c v0) n5) n5) (.c v1))] rfl))
theorem l234 (xa:Nat) (y0:48+xa=47):False:=S [xa] [] [(1,2,.a n11 v0,n1)] rfl y0
theorem l235 (xa xb:Nat) :0≤(xa:Int)+(xb:Int):=bc (S [xa,xb] [] [(1,8,n4,.a (.c v0) (.c v1))] rfl)
theorem l236 (xa xb:Nat) (y0:xa=xb+3) (y1:xb≤2):xa≤100:=bc (S [xa,xb] [] [(1,2,v0,.a v1 n9),(1,0,v1,n6),(1,3,v0,n13)] rfl y0 y1)
theorem l237 (xp:Int) (y0:(0≤xp)∧(xp≤9)):xp.toNat<10:=bc (S [xp.toNat] [xp] [(1,5,v0,n2),(1,7,.c v0,v0),(1,4,v0,n3)] rfl y0.2 (tnn (bc (S [] [xp] [(1,5,n4,v0),(1,8,n4,v0)] rfl y0.1))))
theorem l238 (xa:Nat) (y0:20+1≤xa) (y1:xa≤30):((xa:Int)+10-1)/10=3:=lI (bc (S [xa] [((xa:Int)+10-1)/10,((xa:Int)+10-1)%10] [(1,0,v0,.k 30),(1,7,.a (.m 10 v0) v1,.s (.a (.c v0) n3) n5),(1,5,n4,v1),(10,8,v0,n9)] rfl y1 (mde ((xa:Int)+10-1) (10:Int)) (im0 ((xa:Int)+10-1) (10:Int) rfl))) (bc (S [xa] [((xa:Int)+10-1)/10,((xa:Int)+10-1)%10] [(1,0,.a (.k 20) n5,v0),(-1,7,.a (.m 10 v0) v1,.s (.a (.c v0) n3) n5),(1,6,v1,n3),(10,8,n9,v0)] rfl y0 (mde ((xa:Int)+10-1) (10:Int)) (im1 ((xa:Int)+10-1) (10:Int) rfl)))
theorem l239 (xa:Nat) (y0:xa≤20):(xa:Int)-10≤4000:=bc (S [xa] [] [(1,0,v0,.k 20),(1,8,.s (.c v0) n3,.k 4000)] rfl y0)
theorem l240 (xa xb xc:Nat) (y0:xc+1≤xb):(xa:Int)+1+1+((xb-(xc+1):Nat):Int)+1=(xa:Int)+1+1+((xb-xc:Nat):Int):=lI (bc (S [xb-(xc+1),xc,xb,xb-xc,xa] [] [(1,2,.a v0 (.a v1 n5),v2),(-1,2,.a v3 v1,v2),(1,8,.a (.a (.a (.a (.c v4) n5) n5) (.c v0)) n5,.a (.a (.a (.c v4) n5) n5) (.c v3))] rfl (sac (bc (S [xc,xb] [] [(1,0,.a v0 n5,v1),(1,3,.a v0 n5,v1)] rfl y0))) (sac (bc (S [xc,xb] [] [(1,0,.a v0 n5,v1),(1,3,v0,v1)] rfl y0))))) (bc (S [xb-(xc+1),xc,xb,xb-xc,xa] [] [(-1,2,.a v0 (.a v1 n5),v2),(1,2,.a v3 v1,v2),(1,8,.a (.a (.a (.c v4) n5) n5) (.c v3),.a (.a (.a (.a (.c v4) n5) n5) (.c v0)) n5)] rfl (sac (bc (S [xc,xb] [] [(1,0,.a v0 n5,v1),(1,3,.a v0 n5,v1)] rfl y0))) (sac (bc (S [xc,xb] [] [(1,0,.a v0 n5,v1),(1,3,v0,v1)] rfl y0)))))
theorem l241 (xa:Nat) (y0:(xa=1)∨(xa=2)):xa≤2:=y0.elim (fun j0=>bc (S [xa] [] [(1,2,v0,n5),(1,3,v0,n6)] rfl j0)) (fun j0=>bc (S [xa] [] [(1,2,v0,n6),(1,3,v0,n6)] rfl j0))
theorem l242 (xa:Nat) (xp:Int) (y0:(0≤xp)∧(xp≤(xa:Int))) (y1:xa≤100):xp<2^62:=bc (S [xa] [xp] [(1,5,v0,.c v0),(1,0,v0,n13),(1,9,v0,.k 4611686018427387904)] rfl y0.2 y1)
theorem l243 (xa xb xc:Nat) (y0:xa≤xc) (y1:1≤xb):xa+1≤xb+xc:=bc (S [xa,xc,xb] [] [(1,0,v0,v1),(1,0,n5,v2),(1,3,.a v0 n5,.a v2 v1)] rfl y0 y1)
theorem l244 (xa xb:Nat) :(xa:Int)+1+1+((xb-0:Nat):Int)=(xa:Int)+((2+xb:Nat):Int):=lI (bc (S [xb-0,xb,xa] [] [(1,2,.a v0 n4,v1),(1,8,.a (.a (.a (.c v2) n5) n5) (.c v0),.a (.c v2) (.c (.a n6 v1)))] rfl (sac (bc (S [xb] [] [(1,3,n4,v0)] rfl))))) (bc (S [xb-0,xb,xa] [] [(-1,2,.a v0 n4,v1),(1,8,.a (.c v2) (.c (.a n6 v1)),.a (.a (.a (.c v2) n5) n5) (.c v0))] rfl (sac (bc (S [xb] [] [(1,3,n4,v0)] rfl)))))
theorem l245 (xa xb xc:Nat) :(((xa:Int)=(xb:Int))∧((xc:Int)=(xb:Int)))↔((xa=xb)∧(xc=xb)):=⟨fun i0=>⟨lN (bc (S [xa,xb] [] [(1,7,.c v0,.c v1),(1,3,v0,v1)] rfl i0.1)) (bc (S [xa,xb] [] [(-1,7,.c v0,.c v1),(1,3,v1,v0)] rfl i0.1)), lN (bc (S [xc,xb] [] [(1,7,.c v0,.c v1),(1,3,v0,v1)] rfl i0.2)) (bc (S [xc,xb] [] [(-1,7,.c v0,.c v1),(1,3,v1,v0)] rfl i0.2))⟩,fun i0=>⟨lI (bc (S [xa,xb] [] [(1,2,v0,v1),(1,8,.c v0,.c v1)] rfl i0.1)) (bc (S [xa,xb] [] [(-1,2,v0,v1),(1,8,.c v1,.c v0)] rfl i0.1)), lI (bc (S [xc,xb] [] [(1,2,v0,v1),(1,8,.c v0,.c v1)] rfl i0.2)) (bc (S [xc,xb] [] [(-1,2,v0,v1),(1,8,.c v1,.c v0)] rfl i0.2))⟩⟩
theorem l246 (xa xb:Nat) (y0:(xb:Int)=(xa:Int)):xa=xb:=lN (bc (S [xb,xa] [] [(-1,7,.c v0,.c v1),(1,3,v1,v0)] rfl y0)) (bc (S [xb,xa] [] [(1,7,.c v0,.c v1),(1,3,v0,v1)] rfl y0))
theorem l247 (xa xb xc:Nat) (y0:(xa+xb≤xc)∨(xb=0)) (y1:0<xb):xa+xb≤xc:=y0.elim (fun j0=>bc (S [xa,xb,xc] [] [(1,0,.a v0 v1,v2),(1,3,.a v0 v1,v2)] rfl j0)) (fun j0=>bc fun k1=>S [xb] [] [(1,1,n4,v0),(1,2,v0,n4)] rfl y1 j0)
theorem l248 (xa:Nat) :xa%1000/10%10<10:=bc (S [xa%1000/10%10] [] [(1,1,v0,n3),(1,4,v0,n3)] rfl (mdl (xa%1000/10) (10:Nat) rfl))
theorem l249 (xp:Int) (y0:-1073741824≤xp):-xp-1<1073741824:=bc (S [] [xp] [(1,5,.g n17,v0),(1,9,.s (.g v0) n5,n17)] rfl y0)
theorem l250 (xa:Nat) (y0:1≤xa):xa-1+1=xa:=sac (bc (S [xa] [] [(1,0,n5,v0),(1,3,n5,v0)] rfl y0))
theorem l251 (xa:Nat) :((xa%1000:Nat):Int)+1000=((xa%1000+1000:Nat):Int):=lI (bc (S [xa%1000] [] [(1,8,.a (.c v0) n14,.c (.a v0 n14))] rfl)) (bc (S [xa%1000] [] [(1,8,.c (.a v0 n14),.a (.c v0) n14)] rfl))
theorem l252 (xa:Nat) (xp:Int) (y0:xp<(xa:Int)) (y1:(0≤xp)∧(xp≤(xa:Int))):(0≤xp+1)∧(xp+1≤(xa:Int)):=⟨bc (S [] [xp] [(1,5,n4,v0),(1,8,n4,.a v0 n5)] rfl y1.1), bc (S [xa] [xp] [(1,6,v0,.c v0),(1,8,.a v0 n5,.c v0)] rfl y0)⟩
theorem l253 (xa:Nat) :xa%1000+1000<1000000000:=bc (S [xa%1000] [] [(1,1,v0,n14),(1,4,.a v0 n14,.k 1000000000)] rfl (mdl xa (1000:Nat) rfl))
theorem l254 (xp:Int) (y0:(0≤xp)∧(xp<1024)):xp<1048576:=bc (S [] [xp] [(1,6,v0,.k 1024),(1,9,v0,.k 1048576)] rfl y0.2)
theorem l255 (xa xb:Nat) (y0:xa≤1000) (y1:xb≤xa) (y2:(xb:Int)≥2^63):False:=S [xa,xb] [] [(1,0,v0,n14),(1,0,v1,v0),(1,5,n12,.c v1)] rfl y0 y1 y2
theorem l256 (xp:Int) :-(-xp-1)-1=xp:=lI (bc (S [] [xp] [(1,8,.s (.g (.s (.g v0) n5)) n5,v0)] rfl)) (bc (S [] [xp] [(1,8,v0,.s (.g (.s (.g v0) n5)) n5)] rfl))
theorem l257 (xa xb:Nat) (y0:(107≠xa)∧(xb≠xa)) (y1:xa=xb):False:=(nN (y0.1)).elim (fun j0=>(nN (y0.2)).elim (fun j1=>S [xa,xb] [] [(1,2,v0,v1),(1,1,v1,v0)] rfl y1 j1) (fun j1=>S [xa,xb] [] [(-1,2,v0,v1),(1,1,v0,v1)] rfl y1 j1)) (fun j0=>(nN (y0.2)).elim (fun j1=>S [xa,xb] [] [(1,2,v0,v1),(1,1,v1,v0)] rfl y1 j1) (fun j1=>S [xa,xb] [] [(-1,2,v0,v1),(1,1,v0,v1)] rfl y1 j1))
theorem l258 (xa:Nat) (y0:xa≤9):xa<10:=bc (S [xa] [] [(1,0,v0,n2),(1,4,v0,n3)] rfl y0)
theorem l259 (xa xb xc xd xe xf:Nat) (y0:xb=xc) (y1:xc=xa+(xd+xe)) (y2:xd=1+xf+2):(xa:Int)+1<(xb:Int):=bc (S [xb,xc,xa,xd,xe,xf] [] [(-1,2,v0,v1),(-1,2,v1,.a v2 (.a v3 v4)),(-1,2,v3,.a (.a n5 v5) n6),(1,9,.a (.c v2) n5,.c v0)] rfl y0 y1 y2)
theorem l260 (xa xb xc:Nat) (y0:xb≤xc) (y1:xa+xc<500):xa+xb<500:=bc (S [xb,xc,xa] [] [(1,0,v0,v1),(1,1,.a v2 v1,n16),(1,4,.a v2 v0,n16)] rfl y0 y1)
theorem l261 (xa xb xc xd:Nat) (y0:xa≤20) (y1:xb≤10) (y2:xc≤10) (y3:xd≤10):1+(5+xa)+(1+(xb+xc+xd+0))≤1000:=bc (S [xa,xb,xc,xd] [] [(1,0,v0,.k 20),(1,0,v1,n3),(1,0,v2,n3),(1,0,v3,n3),(1,3,.a (.a n5 (.a n8 v0)) (.a n5 (.a (.a (.a v1 v2) v3) n4)),n14)] rfl y0 y1 y2 y3)
theorem l262 (xa xb:Nat) (y0:xa=xb) (y1:xb≤100):xa≤16777216:=bc (S [xa,xb] [] [(1,2,v0,v1),(1,0,v1,n13),(1,3,v0,n10)] rfl y0 y1)
theorem l263 (xa:Nat) (y0:xa≤640):xa+(xa+1)*0≤16777216:=bc (S [xa] [] [(1,0,v0,.k 640),(1,3,.a v0 (.r (.a v0 n5) 0),n10)] rfl y0)
theorem l264 (xa xb xc xd:Nat) (xp:Int) (y0:xp=(xb:Int)+1+1+((xc-(xd+1):Nat):Int)):-(xa:Int)≤xp:=bc (S [xb,xc-(xd+1),xa] [xp] [(-1,7,v0,.a (.a (.a (.c v0) n5) n5) (.c v1)),(1,8,.g (.c v2),v0)] rfl y0)
theorem l265 (xa:Nat) :(xa:Int)+1+3=(xa:Int)+4:=lI (bc (S [xa] [] [(1,8,.a (.a (.c v0) n5) n9,.a (.c v0) n7)] rfl)) (bc (S [xa] [] [(1,8,.a (.c v0) n7,.a (.a (.c v0) n5) n9)] rfl))
theorem l266 (xa xb xc xd:Nat) (y0:xb=xa+(xc+xd)) (y1:1≤xc):xa<xb:=bc (S [xb,xa,xc,xd] [] [(-1,2,v0,.a v1 (.a v2 v3)),(1,0,n5,v2),(1,4,v1,v0)] rfl y0 y1)
theorem l267 (xa xb:Nat) (y0:(xa:Int)+((xb:Int)+1+1+1+1)+1+1=0):False:=S [xa,xb] [] [(1,7,.a (.a (.a (.c v0) (.a (.a (.a (.a (.c v1) n5) n5) n5) n5)) n5) n5,n4)] rfl y0
theorem l268 (xa xb:Nat) (y0:xa≤xb):xa≤xb+1:=bc (S [xa,xb] [] [(1,0,v0,v1),(1,3,v0,.a v1 n5)] rfl y0)
theorem l269 (xa:Nat) :1≤(xa:Int)+1:=bc (S [xa] [] [(1,8,n5,.a (.c v0) n5)] rfl)
theorem l270 (xa xb:Nat) (y0:xa=xb) (y1:0<xb):0<(xa:Int):=bc (S [xa,xb] [] [(-1,2,v0,v1),(1,1,n4,v1),(1,9,n4,.c v0)] rfl y0 y1)
theorem l271 (xa xb xc xd xe:Nat) (y0:xb=0+xa+2) (y1:xc=xd+(xb+xe)) (y2:xc≤50):xa≤100:=bc (S [xb,xa,xc,xd,xe] [] [(-1,2,v0,.a (.a n4 v1) n6),(-1,2,v2,.a v3 (.a v0 v4)),(1,0,v2,.k 50),(1,3,v1,n13)] rfl y0 y1 y2)
theorem l272 (xa:Nat) :-(2^63)≤(xa:Int):=bc (S [xa] [] [(1,8,.g n12,.c v0)] rfl)
theorem l273 (xa xb xc:Nat) (y0:xa≤xb) (y1:xb≤xc):(xa≤xb)∧(xb≤xc):=⟨bc (S [xa,xb] [] [(1,0,v0,v1),(1,3,v0,v1)] rfl y0), bc (S [xb,xc] [] [(1,0,v0,v1),(1,3,v0,v1)] rfl y1)⟩
theorem l274 (xa xb xc xd:Nat) (y0:xa≤20) (y1:xb≤10) (y2:xc≤10) (y3:xd≤10):1+(2+xa)+(1+(xb+xc+xd+0))≤1000:=bc (S [xa,xb,xc,xd] [] [(1,0,v0,.k 20),(1,0,v1,n3),(1,0,v2,n3),(1,0,v3,n3),(1,3,.a (.a n5 (.a n6 v0)) (.a n5 (.a (.a (.a v1 v2) v3) n4)),n14)] rfl y0 y1 y2 y3)
theorem l275 (xa:Nat) :xa%1000<1000:=bc (S [xa%1000] [] [(1,1,v0,n14),(1,4,v0,n14)] rfl (mdl xa (1000:Nat) rfl))
theorem l276 (xa:Nat) (y0:xa≤100):xa<2^62:=bc (S [xa] [] [(1,0,v0,n13),(1,4,v0,.k 4611686018427387904)] rfl y0)
theorem l277 (xa:Nat) :(xa:Int)+1+1=(xa:Int)+2:=lI (bc (S [xa] [] [(1,8,.a (.a (.c v0) n5) n5,.a (.c v0) n6)] rfl)) (bc (S [xa] [] [(1,8,.a (.c v0) n6,.a (.a (.c v0) n5) n5)] rfl))
theorem l278 (xa:Nat) (xp:Int) (y0:xp=(xa:Int)) (y1:9≥xa):(0≤xp)∧(xp≤9):=⟨bc (S [xa] [xp] [(-1,7,v0,.c v0),(1,8,n4,v0)] rfl y0), bc (S [xa] [xp] [(1,7,v0,.c v0),(1,0,v0,n2),(1,8,v0,n2)] rfl y0 y1)⟩
theorem l279 (xa:Nat) :((0*1000+xa%1000:Nat):Int)=((xa%1000:Nat):Int):=lI (bc (S [xa%1000] [] [(1,8,.c (.a (.m 0 n14) v0),.c v0)] rfl)) (bc (S [xa%1000] [] [(1,8,.c v0,.c (.a (.m 0 n14) v0))] rfl))
theorem l280 (xa:Nat) (y0:xa<1000000000):xa/1000<10^6:=bc (S [xa,xa/1000,xa%1000] [] [(1,1,v0,.k 1000000000),(1,2,.a (.m 1000 v1) v2,v0),(1000,4,v1,.k 1000000)] rfl y0 (dam xa (1000:Nat)))
theorem l281 (xa xb:Nat) (xp:Int) (y0:(0≤xp)∧(xp≤(xb:Int))):-(xa:Int)≤xp:=bc (S [xa] [xp] [(1,5,n4,v0),(1,8,.g (.c v0),v0)] rfl y0.1)
theorem l282 (xa xb xc xd:Nat) (y0:xa≤20) (y1:xb≤10) (y2:xc≤10) (y3:xd≤10):1+(0+xa)+(1+(xb+xc+xd+1))≤1000:=bc (S [xa,xb,xc,xd] [] [(1,0,v0,.k 20),(1,0,v1,n3),(1,0,v2,n3),(1,0,v3,n3),(1,3,.a (.a n5 (.a n4 v0)) (.a n5 (.a (.a (.a v1 v2) v3) n5)),n14)] rfl y0 y1 y2 y3)
theorem l284 (xa:Nat) (y0:¬(xa=0)):1≤xa:=(nN (y0)).elim (fun j0=>bc fun k1=>S [xa] [] [(1,1,v0,n4)] rfl j0) (fun j0=>bc (S [xa] [] [(1,1,n4,v0),(1,3,n5,v0)] rfl j0))
theorem l285 (xa:Nat) (y0:(1≤xa)∧(xa≤2)):xa≤16777216:=bc (S [xa] [] [(1,0,v0,n6),(1,3,v0,n10)] rfl y0.2)
theorem l286 (xa:Nat) (y0:(72<xa)∧(72<xa)) (y1:xa+1+1+1+1=72):False:=S [xa] [] [(1,1,n18,v0),(1,2,.a (.a (.a (.a v0 n5) n5) n5) n5,n18)] rfl y0.1 y1
theorem l287 (xa:Nat) :1+xa=xa+1:=lN (bc (S [xa] [] [(1,3,.a n5 v0,.a v0 n5)] rfl)) (bc (S [xa] [] [(1,3,.a v0 n5,.a n5 v0)] rfl))
theorem l288 (xa:Nat) (y0:(xa:Int)+1=0):False:=S [xa] [] [(1,7,.a (.c v0) n5,n4)] rfl y0
theorem l289 :(301+1+10:Nat)<500:=bc (S [] [] [(1,4,.a (.a (.k 301) n5) n3,n16)] rfl)
theorem l290 (xa xb xc:Nat) (y0:(xa:Int)=(xb:Int)+(xc:Int)+1):-(xa:Int)≤-1:=bc (S [xa,xb,xc] [] [(-1,7,.c v0,.a (.a (.c v1) (.c v2)) n5),(1,8,.g (.c v0),.g n5)] rfl y0)
theorem l291 (xa xb xc xd xe xf xg:Nat) (y0:(xb<xa)∧((xc<xa)∧((xd<xa)∧((xe<xa)∧((xf<xa)∧((xg+1+1<xa)∧((xg+1<xa)∧((107<xa)∧((100<xa)∧((72<xa)∧(57<xa))))))))))):57<xa:=bc (S [xa] [] [(1,1,n19,v0),(1,4,n0,v0)] rfl y0.2.2.2.2.2.2.2.1)
theorem l292 (xa xb xc:Nat) (y0:xa+1=107) (y1:(xb<xa)∧((107<xa)∧(xc<xa))):False:=S [xa] [] [(1,2,.a v0 n5,n19),(1,1,n19,v0)] rfl y0 y1.2.1
theorem l293 (xa xb:Nat) (y0:xa≤xb):xa+1≤xb+1:=bc (S [xa,xb] [] [(1,0,v0,v1),(1,3,.a v0 n5,.a v1 n5)] rfl y0)
theorem l294 (xa xb:Nat) (y0:(xa+1+1<xb)∧(xa+1<xb)) (y1:xa+1+1=xb):False:=S [xa,xb] [] [(1,1,.a (.a v0 n5) n5,v1),(-1,2,.a (.a v0 n5) n5,v1)] rfl y0.1 y1
theorem l295 (xa:Nat) (y0:¬(xa<10)) (y1:xa%10<10):0<xa/10:=bc (S [xa,xa%10,xa/10] [] [(1,4,v0,n3),(1,1,v1,n3),(-1,2,.a (.m 10 v2) v1,v0),(10,4,n4,v2)] rfl y0 y1 (dam xa (10:Nat)))
theorem l296 :(0:Int)≤0:=bc (S [] [] [(1,8,n4,n4)] rfl)
theorem l297 (xa:Nat) (y0:1≤xa):-(xa:Int)≤-1:=bc (S [xa] [] [(1,0,n5,v0),(1,8,.g (.c v0),.g n5)] rfl y0)
theorem l298 (xa:Nat) (y0:0+1≤xa) (y1:xa≤10):((xa:Int)+10-1)/10=1:=lI (bc (S [xa] [((xa:Int)+10-1)/10,((xa:Int)+10-1)%10] [(1,0,v0,n3),(1,7,.a (.m 10 v0) v1,.s (.a (.c v0) n3) n5),(1,5,n4,v1),(10,8,v0,n5)] rfl y1 (mde ((xa:Int)+10-1) (10:Int)) (im0 ((xa:Int)+10-1) (10:Int) rfl))) (bc (S [xa] [((xa:Int)+10-1)/10,((xa:Int)+10-1)%10] [(1,0,.a n4 n5,v0),(-1,7,.a (.m 10 v0) v1,.s (.a (.c v0) n3) n5),(1,6,v1,n3),(10,8,n5,v0)] rfl y0 (mde ((xa:Int)+10-1) (10:Int)) (im1 ((xa:Int)+10-1) (10:Int) rfl)))
theorem l300 (xa:Nat) :xa+1=1+xa:=lN (bc (S [xa] [] [(1,3,.a v0 n5,.a n5 v0)] rfl)) (bc (S [xa] [] [(1,3,.a n5 v0,.a v0 n5)] rfl))
theorem l301 (xa:Nat) :xa≤xa+1+1+1+1:=bc (S [xa] [] [(1,3,v0,.a (.a (.a (.a v0 n5) n5) n5) n5)] rfl)
theorem l302 (xa:Nat) (y0:xa<10):(48≤48+xa)∧(48+xa≤57):=⟨bc (S [xa] [] [(1,3,n11,.a n11 v0)] rfl), bc (S [xa] [] [(1,1,v0,n3),(1,3,.a n11 v0,n0)] rfl y0)⟩
theorem l303 (xa xb xc:Nat) :(xa:Int)+1+((xb-(xc+1):Nat):Int)=(xa:Int)+((1+(xb-(xc+1)):Nat):Int):=lI (bc (S [xa,xb-(xc+1)] [] [(1,8,.a (.a (.c v0) n5) (.c v1),.a (.c v0) (.c (.a n5 v1)))] rfl)) (bc (S [xa,xb-(xc+1)] [] [(1,8,.a (.c v0) (.c (.a n5 v1)),.a (.a (.c v0) n5) (.c v1))] rfl))
theorem l304 (xa xb xc:Nat) (y0:xc≤xb) (y1:xa<xc+1):xa≤xb:=bc (S [xc,xb,xa] [] [(1,0,v0,v1),(1,1,v2,.a v0 n5),(1,3,v2,v1)] rfl y0 y1)
theorem l305 (xa:Nat) (y0:xa≤57) (y1:xa=91):False:=S [xa] [] [(1,0,v0,n0),(-1,2,v0,.k 91)] rfl y0 y1
theorem l306 (xa:Nat) (y0:xa≤16777216):xa+1≤16777216+1:=bc (S [xa] [] [(1,0,v0,n10),(1,3,.a v0 n5,.a n10 n5)] rfl y0)
theorem l307 (xa:Nat) (y0:xa+3+1<500):xa<1000:=bc (S [xa] [] [(1,1,.a (.a v0 n9) n5,n16),(1,4,v0,n14)] rfl y0)
theorem l308 (xa:Nat) :xa≤xa+1+1+1:=bc (S [xa] [] [(1,3,v0,.a (.a (.a v0 n5) n5) n5)] rfl)
theorem l309 (xa xb xc:Nat) (y0:(xa≤6)∧((1≤xa)∧((xb=3)∧(xc≤11)))):xa≤640:=bc (S [xa] [] [(1,0,v0,.k 6),(1,3,v0,.k 640)] rfl y0.1)
theorem l310 (xa:Nat) (y0:¬(xa<1024)):1024≤xa:=bc (S [xa] [] [(1,4,v0,.k 1024),(1,3,.k 1024,v0)] rfl y0)
theorem l311 (xa:Nat) (y0:(48≤xa)∧(xa≤57)) (y1:xa=92):False:=S [xa] [] [(1,0,v0,n0),(-1,2,v0,.k 92)] rfl y0.2 y1
theorem l312 (xa xb xc:Nat) :(xa:Int)+(xb:Int)≤(xa:Int)+(xb:Int)+(xc:Int):=bc (S [xa,xb,xc] [] [(1,8,.a (.c v0) (.c v1),.a (.a (.c v0) (.c v1)) (.c v2))] rfl)
theorem l313 (xp:Int) (y0:xp<1073741824):xp<2^64:=bc (S [] [xp] [(1,6,v0,n17),(1,9,v0,.k 18446744073709551616)] rfl y0)
theorem l315 (xa xb:Nat) (y0:xb=xa) (y1:xb≤6):xa≤999:=bc (S [xb,xa] [] [(-1,2,v0,v1),(1,0,v0,.k 6),(1,3,v1,.k 999)] rfl y0 y1)
theorem l316 (xa xb xc:Nat) (y0:xa+(xc+1)=xb):xa<xb:=bc (S [xa,xc,xb] [] [(1,2,.a v0 (.a v1 n5),v2),(1,4,v0,v2)] rfl y0)
theorem l317 (xa xb:Nat) (y0:(72<xa)∧(xb<xa)) (y1:xb=xa+1+1):False:=S [xb,xa] [] [(1,1,v0,v1),(-1,2,v0,.a (.a v1 n5) n5)] rfl y0.2 y1
theorem l318 (xa xb:Nat) (y0:xb=xa):xa=xb:=lN (bc (S [xb,xa] [] [(-1,2,v0,v1),(1,3,v1,v0)] rfl y0)) (bc (S [xb,xa] [] [(1,2,v0,v1),(1,3,v0,v1)] rfl y0))
theorem l319 (xa:Nat) :1<(xa:Int)+1+1+1:=bc (S [xa] [] [(1,9,n5,.a (.a (.a (.c v0) n5) n5) n5)] rfl)
theorem l320 (xa xb xc xd:Nat) (y0:xa=100) (y1:(xb<xa)∧((xc+1+1+1<xa)∧((xc+1+1<xa)∧((xc+1<xa)∧((100<xa)∧(xd<xa)))))):False:=S [xa] [] [(1,2,v0,n13),(1,1,n13,v0)] rfl y0 y1.2.2.2.2.1
theorem l321 (xa xb:Nat) (y0:48+xa=48+xb):xa=xb:=lN (bc (S [xa,xb] [] [(1,2,.a n11 v0,.a n11 v1),(1,3,v0,v1)] rfl y0)) (bc (S [xa,xb] [] [(-1,2,.a n11 v0,.a n11 v1),(1,3,v1,v0)] rfl y0))
theorem l322 (xa xb:Nat) (y0:xa=0) (y1:xb+(0+1)≤xa):False:=S [xa,xb] [] [(1,2,v0,n4),(1,0,.a v1 (.a n4 n5),v0)] rfl y0 y1
theorem l323 (xa xb:Nat) (y0:xa<10^(xb+1)*10):xa/10<10^(xb+1):=bc (S [xa,10^(xb+1),xa/10,xa%10] [] [(1,1,v0,.r v1 10),(1,2,.a (.m 10 v2) v3,v0),(10,4,v2,v1)] rfl y0 (dam xa (10:Nat)))
theorem l324 (xa xb:Nat) (y0:(100<xa)∧(xb<xa)) (y1:xa+1=xb):False:=S [xb,xa] [] [(1,1,v0,v1),(1,2,.a v1 n5,v0)] rfl y0.2 y1
theorem l325 (xa:Nat) :(xa:Int)+2+1=(xa:Int)+((3:Nat):Int):=lI (bc (S [xa] [] [(1,8,.a (.a (.c v0) n6) n5,.a (.c v0) (.c n9))] rfl)) (bc (S [xa] [] [(1,8,.a (.c v0) (.c n9),.a (.a (.c v0) n6) n5)] rfl))
theorem l326 (xa xb xc xd xe xf xg:Nat) (xp:Int) (y0:xa=xb) (y1:xb=xc+(xd+xe)) (y2:xd=0+xf+2) (y3:xp=(xc:Int)+1+((xf-(xg+1):Nat):Int)) (y4:xg+1≤xf):xp<(xa:Int):=bc (S [xa,xb,xc,xd,xe,xf,xf-(xg+1),xg] [xp] [(-1,2,v0,v1),(-1,2,v1,.a v2 (.a v3 v4)),(-1,2,v3,.a (.a n4 v5) n6),(1,7,v0,.a (.a (.c v2) n5) (.c v6)),(1,2,.a v6 (.a v7 n5),v5),(1,9,v0,.c v0)] rfl y0 y1 y2 y3 (sac (bc (S [xg,xf] [] [(1,0,.a v0 n5,v1),(1,3,.a v0 n5,v1)] rfl y4))))
theorem l327 :(0+1+1:Nat)≤16777216:=bc (S [] [] [(1,3,.a (.a n4 n5) n5,n10)] rfl)
theorem l328 (xa xb:Nat) (xA:Prop) (y0:(xb=xa)∧(xA)):xa=xb:=lN (bc (S [xb,xa] [] [(-1,2,v0,v1),(1,3,v1,v0)] rfl y0.1)) (bc (S [xb,xa] [] [(1,2,v0,v1),(1,3,v0,v1)] rfl y0.1))
theorem l329 (xa xb:Nat) (y0:(72<xa)∧(xb<xa)) (y1:xb=xa+1+1+1):False:=S [xb,xa] [] [(1,1,v0,v1),(-1,2,v0,.a (.a (.a v1 n5) n5) n5)] rfl y0.2 y1
theorem l330 (xp:Int) :xp≤1000*(xp/1000)+xp%1000:=bc (S [] [xp/1000,xp%1000,xp] [(-1,7,.a (.m 1000 v0) v1,v2),(1,8,v2,.a (.m 1000 v0) v1)] rfl (mde xp (1000:Int)))
theorem l331 (xa:Nat) :0+xa=xa:=lN (bc (S [xa] [] [(1,3,.a n4 v0,v0)] rfl)) (bc (S [xa] [] [(1,3,v0,.a n4 v0)] rfl))
theorem l332 (xa:Nat) (y0:xa<1024):(0≤0*1024+(xa:Int))∧(0*1024+(xa:Int)<1024000):=⟨bc (S [xa] [] [(1,8,n4,.a (.m 0 (.k 1024)) (.c v0))] rfl), bc (S [xa] [] [(1,1,v0,.k 1024),(1,9,.a (.m 0 (.k 1024)) (.c v0),.k 1024000)] rfl y0)⟩
theorem l333 (xa:Nat) :(xa:Int)+1+1+3=(xa:Int)+5:=lI (bc (S [xa] [] [(1,8,.a (.a (.a (.c v0) n5) n5) n9,.a (.c v0) n8)] rfl)) (bc (S [xa] [] [(1,8,.a (.c v0) n8,.a (.a (.a (.c v0) n5) n5) n9)] rfl))
theorem l334 :(4+3+10*8:Nat)<5000:=bc (S [] [] [(1,4,.a (.a n7 n9) (.m 10 (.k 8)),n15)] rfl)
theorem l335 (xa:Nat) (y0:(48≤xa)∧(xa≤57)):(xa≠33)∧(xa≠93):=⟨fun k0=>S [xa] [] [(1,0,n11,v0),(1,2,v0,.k 33)] rfl y0.1 k0, fun k0=>S [xa] [] [(1,0,v0,n0),(-1,2,v0,.k 93)] rfl y0.2 k0⟩
theorem l336 (xa:Nat) (y0:(xa:Int)<1048576):xa<2^20:=bc (S [xa] [] [(1,6,.c v0,.k 1048576),(1,4,v0,.k 1048576)] rfl y0)
theorem l337 (xa:Nat) (y0:xa≤20):(xa:Int)+10≤2^27:=bc (S [xa] [] [(1,0,v0,.k 20),(1,8,.a (.c v0) n3,.k 134217728)] rfl y0)
theorem l338 (xa:Nat) (y0:xa≤20):0+xa≤1000:=bc (S [xa] [] [(1,0,v0,.k 20),(1,3,.a n4 v0,n14)] rfl y0)
theorem l339 (xa:Nat) (y0:xa≤640):(xa:Int)≤2048:=bc (S [xa] [] [(1,0,v0,.k 640),(1,8,.c v0,.k 2048)] rfl y0)
theorem l340 (xa xb xc:Nat) (y0:xa=xb) (y1:(xc+1+1+1<xa)∧((xc+1+1<xa)∧((xc+1<xa)∧((100<xa)∧(xb<xa))))):False:=S [xa,xb] [] [(1,2,v0,v1),(1,1,v1,v0)] rfl y0 y1.2.2.2.2
theorem l341 (xa:Nat) (y0:(0≤(xa:Int))∧((xa:Int)<1024000)):xa<2^20:=bc (S [xa] [] [(1,6,.c v0,.k 1024000),(1,4,v0,.k 1048576)] rfl y0.2)
theorem l342 (xa:Nat) (y0:xa=4):(xa:Int)<9223372036854775808:=bc (S [xa] [] [(1,2,v0,n7),(1,9,.c v0,n12)] rfl y0)
theorem l343 (xa:Nat) :xa*10≤10*xa:=bc (S [xa] [] [(1,3,.r v0 10,.m 10 v0)] rfl)
theorem l344 (xa xb:Nat) (y0:¬(xa=xb)) (y1:xb=xa):False:=(nN (y0)).elim (fun j0=>S [xb,xa] [] [(1,2,v0,v1),(1,1,v1,v0)] rfl y1 j0) (fun j0=>S [xb,xa] [] [(-1,2,v0,v1),(1,1,v0,v1)] rfl y1 j0)
theorem l345 (xa xb xc:Nat) (y0:xc=xa) (y1:xb≥xc):xa≤xb:=bc (S [xc,xa,xb] [] [(-1,2,v0,v1),(1,0,v0,v2),(1,3,v1,v2)] rfl y0 y1)
theorem l346 (xa:Nat) (y0:xa≤3):1*xa≤256:=bc (S [xa] [] [(1,0,v0,n9),(1,3,.m 1 v0,.k 256)] rfl y0)
theorem l347 (xa xb xc:Nat) (y0:xa+1+1+1=xb) (y1:(xc<xa)∧((107<xa)∧(xb<xa))):False:=S [xa,xb] [] [(1,2,.a (.a (.a v0 n5) n5) n5,v1),(1,1,v1,v0)] rfl y0 y1.2.2
theorem l348 :(4+3+10*12:Nat)<5000:=bc (S [] [] [(1,4,.a (.a n7 n9) (.m 10 (.k 12)),n15)] rfl)
theorem l349 (xa:Nat) (y0:xa+10*(3+1)<5000):xa+3+10*(2+1)<5000:=bc (S [xa] [] [(1,1,.a v0 (.m 10 (.a n9 n5)),n15),(1,4,.a (.a v0 n9) (.m 10 (.a n6 n5)),n15)] rfl y0)
theorem l350 (xa:Nat) (y0:2≤xa):1<(xa:Int):=bc (S [xa] [] [(1,0,n6,v0),(1,9,n5,.c v0)] rfl y0)
theorem l352 (xa:Nat) :-(2^62)≤(xa:Int)+1:=bc (S [xa] [] [(1,8,.g (.k 4611686018427387904),.a (.c v0) n5)] rfl)
theorem l353 (xp:Int) (y0:(0≤xp)∧(xp≤9)):xp<((10:Nat):Int):=bc (S [] [xp] [(1,5,v0,n2),(1,9,v0,.c n3)] rfl y0.2)
theorem l354 (xa xb xc:Nat) (y0:xa<xb):(xa:Int)<(xb:Int)+(xc:Int):=bc (S [xa,xb,xc] [] [(1,1,v0,v1),(1,9,.c v0,.a (.c v1) (.c v2))] rfl y0)
theorem l355 (xa xb:Nat) (y0:(0:Nat)<2^xa) (y1:2^xa≤xb) (y2:xb=0):False:=S [2^xa,xb] [] [(1,1,n4,v0),(1,0,v0,v1),(1,2,v1,n4)] rfl y0 y1 y2
theorem l356 (xa:Nat) (y0:xa=33) (y1:xa=45):False:=S [xa] [] [(1,2,v0,.k 33),(-1,2,v0,.k 45)] rfl y0 y1
theorem l357 (xa xb xc:Nat) (y0:¬(xa≤xc)):(¬(xa≤xb))∨(¬(xb≤xc)):=bc fun k0=>S [xa,xc,xb] [] [(1,3,v0,v1),(1,0,v0,v2),(1,0,v2,v1)] rfl y0 ((nnE (fun x=>k0 (.inl x)))) ((nnE (fun x=>k0 (.inr x))))
theorem l358 (xa:Nat) (y0:xa≤20):xa≤1000:=bc (S [xa] [] [(1,0,v0,.k 20),(1,3,v0,n14)] rfl y0)
theorem l359 (xa:Nat) (y0:0<xa):0<(xa:Int):=bc (S [xa] [] [(1,1,n4,v0),(1,9,n4,.c v0)] rfl y0)
theorem l360 :(301+1+8:Nat)<500:=bc (S [] [] [(1,4,.a (.a (.k 301) n5) (.k 8),n16)] rfl)
theorem l361 (xa xb xc xd xe xf:Nat) (xp:Int) (y0:xa=xb+(xc+xd)) (y1:xc=0+xe+2) (y2:xp=(xb:Int)+1+((xe-xf:Nat):Int)) (y3:xf≤xe):xp<(xa:Int):=bc (S [xa,xb,xc,xd,xe,xe-xf,xf] [xp] [(-1,2,v0,.a v1 (.a v2 v3)),(-1,2,v2,.a (.a n4 v4) n6),(1,7,v0,.a (.a (.c v1) n5) (.c v5)),(1,2,.a v5 v6,v4),(1,9,v0,.c v0)] rfl y0 y1 y2 (sac (bc (S [xf,xe] [] [(1,0,v0,v1),(1,3,v0,v1)] rfl y3))))
theorem l363 (xp:Int) (y0:-1073741824<xp):-xp<1073741824:=bc (S [] [xp] [(1,6,.g n17,v0),(1,9,.g v0,n17)] rfl y0)
theorem l364 (xa:Nat) (y0:xa≤6):xa≤635:=bc (S [xa] [] [(1,0,v0,.k 6),(1,3,v0,.k 635)] rfl y0)
theorem l365 (xa:Nat) (y0:xa≤6):xa≤20:=bc (S [xa] [] [(1,0,v0,.k 6),(1,3,v0,.k 20)] rfl y0)
theorem l366 (xa:Nat) (y0:xa<3):(xa:Int)<2^63:=bc (S [xa] [] [(1,1,v0,n9),(1,9,.c v0,n12)] rfl y0)
theorem l367 (xa:Nat) (y0:(xa:Int)=((xa-1:Nat):Int)+1):1≤xa:=bc (S [xa,xa-1] [] [(-1,7,.c v0,.a (.c v1) n5),(1,3,n5,v0)] rfl y0)
theorem l368 (xa:Nat) :0≤(xa:Int)+2+3:=bc (S [xa] [] [(1,8,n4,.a (.a (.c v0) n6) n9)] rfl)
theorem l369 (xa xb:Nat) (y0:xa+1≤xb):xa≤xb:=bc (S [xa,xb] [] [(1,0,.a v0 n5,v1),(1,3,v0,v1)] rfl y0)
theorem l370 :(0+1+1+1+1+1:Nat)≤16777216:=bc (S [] [] [(1,3,.a (.a (.a (.a (.a n4 n5) n5) n5) n5) n5,n10)] rfl)
theorem l371 (xa:Nat) (y0:xa<1000000000):(xa:Int)<1073741824:=bc (S [xa] [] [(1,1,v0,.k 1000000000),(1,9,.c v0,n17)] rfl y0)
theorem l372 (xa:Nat) (y0:3≤(xa:Int)):1≤(xa:Int):=bc (S [xa] [] [(1,5,n9,.c v0),(1,8,n5,.c v0)] rfl y0)
theorem l373 (xa:Nat) (y0:(107<xa)∧((100<xa)∧((72<xa)∧(57<xa)))) (y1:57=xa+1):False:=S [xa] [] [(1,1,n19,v0),(-1,2,n0,.a v0 n5)] rfl y0.1 y1
theorem l374 (xa:Nat) (y0:xa=0+1):(xa:Int)<9223372036854775808:=bc (S [xa] [] [(1,2,v0,.a n4 n5),(1,9,.c v0,n12)] rfl y0)
theorem l375 (xa xb xc:Nat) (y0:xa=57) (y1:(xb<xa)∧((xc<xa)∧(57<xa))):False:=S [xa] [] [(1,2,v0,n0),(1,1,n0,v0)] rfl y0 y1.2.2
theorem l376 (xa:Nat) (y0:xa=3):(xa:Int)<9223372036854775808:=bc (S [xa] [] [(1,2,v0,n9),(1,9,.c v0,n12)] rfl y0)
theorem l377 (xa xb:Nat) (y0:xa=xb) (y1:xb≤63):xa≤16777216:=bc (S [xa,xb] [] [(1,2,v0,v1),(1,0,v1,.k 63),(1,3,v0,n10)] rfl y0 y1)
theorem l378 (xa xb:Nat) (y0:(100<xa)∧(xb<xa)) (y1:xa+1+1+1=xb):False:=S [xb,xa] [] [(1,1,v0,v1),(1,2,.a (.a (.a v1 n5) n5) n5,v0)] rfl y0.2 y1
theorem l379 (xa:Nat) (y0:xa≤57):xa<128:=bc (S [xa] [] [(1,0,v0,n0),(1,4,v0,.k 128)] rfl y0)
theorem l380 (xa:Nat) (y0:xa≤11):xa≤100:=bc (S [xa] [] [(1,0,v0,.k 11),(1,3,v0,n13)] rfl y0)
theorem l381 (xa xb:Nat) :(xa:Int)+((xb:Int)+1)=(xa:Int)+(xb:Int)+1:=lI (bc (S [xa,xb] [] [(1,8,.a (.c v0) (.a (.c v1) n5),.a (.a (.c v0) (.c v1)) n5)] rfl)) (bc (S [xa,xb] [] [(1,8,.a (.a (.c v0) (.c v1)) n5,.a (.c v0) (.a (.c v1) n5))] rfl))
theorem l382 (xa:Nat) (y0:xa≤999):xa≤16777215:=bc (S [xa] [] [(1,0,v0,.k 999),(1,3,v0,.k 16777215)] rfl y0)
theorem l383 (xa:Nat) (y0:xa≤50) (y1:(xa:Int)≥2^63):False:=S [xa] [] [(1,0,v0,.k 50),(1,5,n12,.c v0)] rfl y0 y1
theorem l384 (xa xb:Nat) (y0:xa+1≤xb+1):xa≤xb:=bc (S [xa,xb] [] [(1,0,.a v0 n5,.a v1 n5),(1,3,v0,v1)] rfl y0)
theorem l385 (xa xb xc:Nat) (y0:xa≤10) (y1:xb≤10) (y2:xc≤10):xa+xb+xc+0≤1000:=bc (S [xa,xb,xc] [] [(1,0,v0,n3),(1,0,v1,n3),(1,0,v2,n3),(1,3,.a (.a (.a v0 v1) v2) n4,n14)] rfl y0 y1 y2)
theorem l386 (xa xb xc:Nat) (y0:xc=xb) (y1:xa<xc):xa<xb:=bc (S [xc,xb,xa] [] [(1,2,v0,v1),(1,1,v2,v0),(1,4,v2,v1)] rfl y0 y1)
theorem l387 (xa:Nat) (y0:xa/10≤9):xa/10<10:=bc (S [xa/10] [] [(1,0,v0,n2),(1,4,v0,n3)] rfl y0)
theorem l388 (xa xb:Nat) (y0:xa=57) (y1:(xb<xa)∧(57<xa)):False:=S [xa] [] [(1,2,v0,n0),(1,1,n0,v0)] rfl y0 y1.2
theorem l389 (xa:Nat) (xp:Int) (y0:(0≤xp)∧(xp≤(xa:Int))):-(2^62)≤xp:=bc (S [] [xp] [(1,5,n4,v0),(1,8,.g (.k 4611686018427387904),v0)] rfl y0.1)
theorem l390 :((45:Nat)<48)∨((57:Nat)<45):=.inl (bc (S [] [] [(1,4,.k 45,n11)] rfl))
theorem l391 (xa:Nat) (y0:¬(((63:Nat):Int)<(xa:Int))):xa≤63:=bc (S [xa] [] [(1,9,.c (.k 63),.c v0),(1,3,v0,.k 63)] rfl y0)
theorem l392 (xa:Nat) :(xa:Int)+3=(xa:Int)+1+2:=lI (bc (S [xa] [] [(1,8,.a (.c v0) n9,.a (.a (.c v0) n5) n6)] rfl)) (bc (S [xa] [] [(1,8,.a (.a (.c v0) n5) n6,.a (.c v0) n9)] rfl))
theorem l393 (xa:Nat) (y0:(xa=1)∨(xa=2)):0<xa:=y0.elim (fun j0=>bc (S [xa] [] [(-1,2,v0,n5),(1,4,n4,v0)] rfl j0)) (fun j0=>bc (S [xa] [] [(-1,2,v0,n6),(1,4,n4,v0)] rfl j0))
theorem l394 (xa:Nat) :(xa:Int)=-1+((xa:Int)+1):=lI (bc (S [xa] [] [(1,8,.c v0,.a (.g n5) (.a (.c v0) n5))] rfl)) (bc (S [xa] [] [(1,8,.a (.g n5) (.a (.c v0) n5),.c v0)] rfl))
theorem l395 (xa:Nat) (y0:¬(9<xa)) (y1:9<(xa:Int)):False:=S [xa] [] [(1,4,n2,v0),(1,6,n2,.c v0)] rfl y0 y1
theorem l396 (xa xb:Nat) (y0:xa-1<xb):((xa-1:Nat):Int)<(xb:Int):=bc (S [xa-1,xb] [] [(1,1,v0,v1),(1,9,.c v0,.c v1)] rfl y0)
theorem l397 (xa xb:Nat) (y0:xa<xb) (y1:xa=xb+1+1+1+1):False:=S [xa,xb] [] [(1,1,v0,v1),(-1,2,v0,.a (.a (.a (.a v1 n5) n5) n5) n5)] rfl y0 y1
theorem l398 (xp:Int) (y0:(xp<1000000000)∧(0≤xp)):-1000000000<xp:=bc (S [] [xp] [(1,5,n4,v0),(1,9,.g (.k 1000000000),v0)] rfl y0.2)
theorem l399 (xa:Nat) (y0:(48≤xa)∧(xa≤57)) (y1:91=xa):False:=S [xa] [] [(1,0,v0,n0),(1,2,.k 91,v0)] rfl y0.2 y1
theorem l400 (xa xb:Nat) (y0:48+xb=xa):47≤xa:=bc (S [xb,xa] [] [(1,2,.a n11 v0,v1),(1,3,n1,v1)] rfl y0)
theorem l401 :(-(2^64):Int)<10:=bc (S [] [] [(1,9,.g (.k 18446744073709551616),n3)] rfl)
theorem l402 (xa xb:Nat) :xa<xa+xb+1:=bc (S [xa,xb] [] [(1,4,v0,.a (.a v0 v1) n5)] rfl)
theorem l403 (xa xb:Nat) (y0:xa-1<xb):xa-1≤xb:=bc (S [xa-1,xb] [] [(1,1,v0,v1),(1,3,v0,v1)] rfl y0)
theorem l404 (xa:Nat) (y0:xa=3):2<(xa:Int):=bc (S [xa] [] [(-1,2,v0,n9),(1,9,n6,.c v0)] rfl y0)
theorem l405 (xa:Nat) (y0:xa≤20):5+xa≤1000:=bc (S [xa] [] [(1,0,v0,.k 20),(1,3,.a n8 v0,n14)] rfl y0)
theorem l406 (xa:Nat) :((xa:Int)+1+1).toNat=xa+2:=lN (bc (S [((xa:Int)+1+1).toNat,xa] [] [(1,7,.c v0,.a (.a (.c v1) n5) n5),(1,3,v0,.a v1 n6)] rfl (tnn (bc (S [xa] [] [(1,8,n4,.a (.a (.c v0) n5) n5)] rfl))))) (bc (S [((xa:Int)+1+1).toNat,xa] [] [(-1,7,.c v0,.a (.a (.c v1) n5) n5),(1,3,.a v1 n6,v0)] rfl (tnn (bc (S [xa] [] [(1,8,n4,.a (.a (.c v0) n5) n5)] rfl)))))
theorem l407 (xa:Nat) :((xa:Int)+1+2).toNat=xa+3:=lN (bc (S [((xa:Int)+1+2).toNat,xa] [] [(1,7,.c v0,.a (.a (.c v1) n5) n6),(1,3,v0,.a v1 n9)] rfl (tnn (bc (S [xa] [] [(1,8,n4,.a (.a (.c v0) n5) n6)] rfl))))) (bc (S [((xa:Int)+1+2).toNat,xa] [] [(-1,7,.c v0,.a (.a (.c v1) n5) n6),(1,3,.a v1 n9,v0)] rfl (tnn (bc (S [xa] [] [(1,8,n4,.a (.a (.c v0) n5) n6)] rfl)))))
theorem l408 (xa xb:Nat) (y0:xa-xb>0):1≤xa-xb:=bc (S [xa-xb] [] [(1,1,n4,v0),(1,3,n5,v0)] rfl y0)
theorem l409 (xa:Nat) :9<xa+1000:=bc (S [xa] [] [(1,4,n2,.a v0 n14)] rfl)
theorem l410 (xa:Nat) (y0:xa≤11):xa≤1000:=bc (S [xa] [] [(1,0,v0,.k 11),(1,3,v0,n14)] rfl y0)
theorem l411 (xa:Nat) (y0:9<xa):10≤xa:=bc (S [xa] [] [(1,1,n2,v0),(1,3,n3,v0)] rfl y0)
theorem l412 (xa:Nat) (y0:xa≤5+1):xa≤100:=bc (S [xa] [] [(1,0,v0,.a n8 n5),(1,3,v0,n13)] rfl y0)
theorem l413 (xa:Nat) (y0:(48≤xa)∧(xa≤57)) (y1:xa=94):False:=S [xa] [] [(1,0,v0,n0),(-1,2,v0,.k 94)] rfl y0.2 y1
theorem l414 (xa:Nat) :(xa:Int)+3+1=(xa:Int)+((4:Nat):Int):=lI (bc (S [xa] [] [(1,8,.a (.a (.c v0) n9) n5,.a (.c v0) (.c n7))] rfl)) (bc (S [xa] [] [(1,8,.a (.c v0) (.c n7),.a (.a (.c v0) n9) n5)] rfl))
theorem l415 (xa xb:Nat) (y0:(xa:Int)+1≤(xb:Int)):xa<xb:=bc (S [xa,xb] [] [(1,5,.a (.c v0) n5,.c v1),(1,4,v0,v1)] rfl y0)
theorem l416 (xa:Nat) :-(xa:Int)≤1:=bc (S [xa] [] [(1,8,.g (.c v0),n5)] rfl)
theorem l417 (xa:Nat) :0≤(xa:Int)+1+2:=bc (S [xa] [] [(1,8,n4,.a (.a (.c v0) n5) n6)] rfl)
theorem l418 (xa xb xc xd:Nat) (y0:xa=xb) (y1:(xc<xa)∧((xd+1+1+1<xa)∧((xd+1+1<xa)∧((xd+1<xa)∧((100<xa)∧(xb<xa)))))):False:=S [xa,xb] [] [(1,2,v0,v1),(1,1,v1,v0)] rfl y0 y1.2.2.2.2.2
theorem l419 (xa:Nat) (y0:xa≤1000):xa≤16777216:=bc (S [xa] [] [(1,0,v0,n14),(1,3,v0,n10)] rfl y0)
theorem l420 (xa:Nat) (y0:xa≤640):xa≤16777216:=bc (S [xa] [] [(1,0,v0,.k 640),(1,3,v0,n10)] rfl y0)
theorem l421 (xa:Nat) (y0:47≤xa) (y1:41=xa):False:=S [xa] [] [(1,0,n1,v0),(-1,2,.k 41,v0)] rfl y0 y1
theorem l424 (xa:Nat) (y0:xa<1048576):(xa:Int)<1073741824:=bc (S [xa] [] [(1,1,v0,.k 1048576),(1,9,.c v0,n17)] rfl y0)
theorem l425 (xa:Nat) :0<(xa:Int)+1+1+1:=bc (S [xa] [] [(1,9,n4,.a (.a (.a (.c v0) n5) n5) n5)] rfl)
theorem l426 (xa:Nat) (y0:xa<1000000000):-1073741824≤-(xa:Int):=bc (S [xa] [] [(1,1,v0,.k 1000000000),(1,8,.g n17,.g (.c v0))] rfl y0)
theorem l427 (xa xb:Nat) (y0:xa=48+xb):47≤xa:=bc (S [xa,xb] [] [(-1,2,v0,.a n11 v1),(1,3,n1,v0)] rfl y0)
theorem l428 (xa xb xc:Nat) (y0:xa+1+1=107) (y1:(xb<xa)∧((107<xa)∧(xc<xa))):False:=S [xa] [] [(1,2,.a (.a v0 n5) n5,n19),(1,1,n19,v0)] rfl y0 y1.2.1
theorem l429 (xa:Nat) (y0:xa≤640):xa≤4300:=bc (S [xa] [] [(1,0,v0,.k 640),(1,3,v0,.k 4300)] rfl y0)
theorem l430 (xp:Int) (y0:(0≤xp)∧(xp≤999)):xp<2^64:=bc (S [] [xp] [(1,5,v0,.k 999),(1,9,v0,.k 18446744073709551616)] rfl y0.2)
theorem l431 (xa:Nat) (y0:xa≤100):xa≤1000:=bc (S [xa] [] [(1,0,v0,n13),(1,3,v0,n14)] rfl y0)
theorem l432 (xa:Nat) (y0:xa≤20):2+xa≤1000:=bc (S [xa] [] [(1,0,v0,.k 20),(1,3,.a n6 v0,n14)] rfl y0)
theorem l433 (xp:Int) :xp%1000≤999:=bc (S [] [xp%1000] [(1,6,v0,n14),(1,8,v0,.k 999)] rfl (im1 xp (1000:Int) rfl))
theorem l434 (xa:Nat) (y0:xa≤640) (y1:(xa:Int)≥2^63):False:=S [xa] [] [(1,0,v0,.k 640),(1,5,n12,.c v0)] rfl y0 y1
theorem l435 (xa:Nat) :xa<xa+2:=bc (S [xa] [] [(1,4,v0,.a v0 n6)] rfl)
theorem l437 (xa xb:Nat) (y0:xa+1+1+1=100) (y1:(100<xa)∧(xb<xa)):False:=S [xa] [] [(1,2,.a (.a (.a v0 n5) n5) n5,n13),(1,1,n13,v0)] rfl y0 y1.1
theorem l438 (xa xb:Nat) (y0:xa<xb):(xa:Int)<(xb:Int):=bc (S [xa,xb] [] [(1,1,v0,v1),(1,9,.c v0,.c v1)] rfl y0)
theorem l439 (xa:Nat) (y0:xa≤100):xa+(0+1+1+1)≤16777216:=bc (S [xa] [] [(1,0,v0,n13),(1,3,.a v0 (.a (.a (.a n4 n5) n5) n5),n10)] rfl y0)
theorem l440 (xa:Nat) (y0:xa≤100):xa+xa≤1048576:=bc (S [xa] [] [(2,0,v0,n13),(1,3,.a v0 v0,.k 1048576)] rfl y0)
theorem l442 (xa:Nat) (y0:57<xa) (y1:xa=57):False:=S [xa] [] [(1,1,n0,v0),(1,2,v0,n0)] rfl y0 y1
theorem l443 (xa:Nat) :1≤xa+1:=bc (S [xa] [] [(1,3,n5,.a v0 n5)] rfl)
theorem l444 (xa:Nat) :(xa:Int)+2=(xa:Int)+1+1:=lI (bc (S [xa] [] [(1,8,.a (.c v0) n6,.a (.a (.c v0) n5) n5)] rfl)) (bc (S [xa] [] [(1,8,.a (.a (.c v0) n5) n5,.a (.c v0) n6)] rfl))
theorem l445 :(0:Int)≤10:=bc (S [] [] [(1,8,n4,n3)] rfl)
theorem l446 (xp:Int) (y0:xp=0):(0≤xp)∧(xp≤9):=⟨bc (S [] [xp] [(-1,7,v0,n4),(1,8,n4,v0)] rfl y0), bc (S [] [xp] [(1,7,v0,n4),(1,8,v0,n2)] rfl y0)⟩
theorem l447 :(10:Int)≤1000000:=bc (S [] [] [(1,8,n3,.k 1000000)] rfl)
theorem l448 (xa xb:Nat) (y0:(xa:Int)<(xb:Int)):xa<xb:=bc (S [xa,xb] [] [(1,6,.c v0,.c v1),(1,4,v0,v1)] rfl y0)
theorem l449 (xp:Int) (y0:(0≤xp)∧(xp<1024000)):xp<1048576:=bc (S [] [xp] [(1,6,v0,.k 1024000),(1,9,v0,.k 1048576)] rfl y0.2)
theorem l450 (xa:Nat) :(xa:Int)+1+1+3=(xa:Int)+1+4:=lI (bc (S [xa] [] [(1,8,.a (.a (.a (.c v0) n5) n5) n9,.a (.a (.c v0) n5) n7)] rfl)) (bc (S [xa] [] [(1,8,.a (.a (.c v0) n5) n7,.a (.a (.a (.c v0) n5) n5) n9)] rfl))
theorem l452 (xa:Nat) (y0:xa≤100) (y1:(xa:Int)≥2^63):False:=S [xa] [] [(1,0,v0,n13),(1,5,n12,.c v0)] rfl y0 y1
theorem l453 (xa:Nat) :(xa:Int)+4=(xa:Int)+2+1+1:=lI (bc (S [xa] [] [(1,8,.a (.c v0) n7,.a (.a (.a (.c v0) n6) n5) n5)] rfl)) (bc (S [xa] [] [(1,8,.a (.a (.a (.c v0) n6) n5) n5,.a (.c v0) n7)] rfl))
theorem l454 (xa xb:Nat) :2≤(xa:Int)+((xb:Int)+1+1+1+1)+1+1:=bc (S [xa,xb] [] [(1,8,n6,.a (.a (.a (.c v0) (.a (.a (.a (.a (.c v1) n5) n5) n5) n5)) n5) n5)] rfl)
theorem l455 (xa xb:Nat) (y0:(xa<xb)∧(57<xb)) (y1:xa=xb):False:=S [xa,xb] [] [(1,1,v0,v1),(-1,2,v0,v1)] rfl y0.1 y1
theorem l456 (xa:Nat) :-1+(xa:Int)≤(xa:Int):=bc (S [xa] [] [(1,8,.a (.g n5) (.c v0),.c v0)] rfl)
theorem l457 (xa xb:Nat) (y0:xa=xb) (y1:xb≤2):xa≤100:=bc (S [xa,xb] [] [(1,2,v0,v1),(1,0,v1,n6),(1,3,v0,n13)] rfl y0 y1)
theorem l458 (xa:Nat) (y0:9<xa) (y1:xa≤9):False:=S [xa] [] [(1,1,n2,v0),(1,0,v0,n2)] rfl y0 y1
theorem l459 (xa xb:Nat) :(xa:Int)<(xa:Int)+((xb:Int)+1):=bc (S [xa,xb] [] [(1,9,.c v0,.a (.c v0) (.a (.c v1) n5))] rfl)
theorem l460 (xa:Nat) (y0:2≤(xa:Int)):1≤(xa:Int):=bc (S [xa] [] [(1,5,n6,.c v0),(1,8,n5,.c v0)] rfl y0)
theorem l461 (xp:Int) :-xp-1=-xp-1:=lI (bc (S [] [xp] [(1,8,.s (.g v0) n5,.s (.g v0) n5)] rfl)) (bc (S [] [xp] [(1,8,.s (.g v0) n5,.s (.g v0) n5)] rfl))
theorem l462 (xa:Nat) (y0:xa+1+1=xa+1):False:=S [xa] [] [(1,2,.a (.a v0 n5) n5,.a v0 n5)] rfl y0
theorem l463 (xa:Nat) (y0:(72<xa)∧(72<xa)) (y1:xa+1+1=72):False:=S [xa] [] [(1,1,n18,v0),(1,2,.a (.a v0 n5) n5,n18)] rfl y0.1 y1
theorem l464 (xp:Int) (y0:xp<1073741824):-1073741824≤-xp:=bc (S [] [xp] [(1,6,v0,n17),(1,8,.g n17,.g v0)] rfl y0)
theorem l465 (xa:Nat) :-(xa:Int)<1073741824:=bc (S [xa] [] [(1,9,.g (.c v0),n17)] rfl)
theorem l466 (xa:Nat) (y0:xa<4):(xa:Int)<2^63:=bc (S [xa] [] [(1,1,v0,n7),(1,9,.c v0,n12)] rfl y0)
theorem l467 (xa:Nat) :0<(xa:Int)+1+1:=bc (S [xa] [] [(1,9,n4,.a (.a (.c v0) n5) n5)] rfl)
theorem l468 (xa xb:Nat) (y0:xa≤xb) (y1:xb≤1000):xa≤16777216:=bc (S [xa,xb] [] [(1,0,v0,v1),(1,0,v1,n14),(1,3,v0,n10)] rfl y0 y1)
theorem l469 :(0:Int)≤1:=bc (S [] [] [(1,8,n4,n5)] rfl)
theorem l470 (xa:Nat) (y0:0<xa):-(xa:Int)≤-1:=bc (S [xa] [] [(1,1,n4,v0),(1,8,.g (.c v0),.g n5)] rfl y0)
theorem l471 (xa:Nat) (y0:(1≤xa)∧(xa≤2)):-(xa:Int)≤-1:=bc (S [xa] [] [(1,0,n5,v0),(1,8,.g (.c v0),.g n5)] rfl y0.1)
theorem l472 (xp xq:Int) (y0:(0≤xq)∧(xq<1024)) (y1:(0≤xp)∧(xp<1024)):0≤xp*1024+xq:=bc (S [] [xq,xp] [(1,5,n4,v0),(1024,5,n4,v1),(1,8,n4,.a (.r v1 1024) v0)] rfl y0.1 y1.1)
theorem l473 (xa:Nat) :-1073741824<(xa:Int):=bc (S [xa] [] [(1,9,.g n17,.c v0)] rfl)
theorem l474 (xa:Nat) (y0:3≤(xa:Int)):2≤(xa:Int):=bc (S [xa] [] [(1,5,n9,.c v0),(1,8,n6,.c v0)] rfl y0)
theorem l475 (xa:Nat) (y0:xa<1073741824):(xa:Int)<1073741824:=bc (S [xa] [] [(1,1,v0,n17),(1,9,.c v0,n17)] rfl y0)
theorem l476 (xa xb xc:Nat) (y0:(xb:Int)=(xa:Int)+(xc:Int)+1):(xa:Int)≤-1+(xb:Int):=bc (S [xb,xa,xc] [] [(-1,7,.c v0,.a (.a (.c v1) (.c v2)) n5),(1,8,.c v1,.a (.g n5) (.c v0))] rfl y0)
theorem l477 (xa xb:Nat) (y0:xa≤xb) (y1:xb≤1000):(xa:Int)≤((1048576:Nat):Int):=bc (S [xa,xb] [] [(1,0,v0,v1),(1,0,v1,n14),(1,8,.c v0,.c (.k 1048576))] rfl y0 y1)
theorem l478 (xa:Nat) :0<xa+1:=bc (S [xa] [] [(1,4,n4,.a v0 n5)] rfl)
theorem l479 (xa xb xc:Nat) (y0:xa=100) (y1:(xb+1+1+1<xa)∧((xb+1+1<xa)∧((xb+1<xa)∧((100<xa)∧(xc<xa))))):False:=S [xa] [] [(1,2,v0,n13),(1,1,n13,v0)] rfl y0 y1.2.2.2.1
theorem l480 (xa:Nat) :-(xa:Int)≤2:=bc (S [xa] [] [(1,8,.g (.c v0),n6)] rfl)
theorem l481 (xa:Nat) (y0:(xa:Int)<1073741824):xa<1073741824:=bc (S [xa] [] [(1,6,.c v0,n17),(1,4,v0,n17)] rfl y0)
theorem l482 (xa:Nat) (y0:(xa:Int)<0):False:=S [xa] [] [(1,6,.c v0,n4)] rfl y0
theorem l483 (xa xb:Nat) (y0:72=xa+1+1) (y1:(72<xa)∧(xb<xa)):False:=S [xa] [] [(-1,2,n18,.a (.a v0 n5) n5),(1,1,n18,v0)] rfl y0 y1.1
theorem l484 (xa:Nat) (y0:47≤xa) (y1:xa=42):False:=S [xa] [] [(1,0,n1,v0),(1,2,v0,.k 42)] rfl y0 y1
theorem l485 (xa:Nat) (y0:xa≤57) (y1:xa=63):False:=S [xa] [] [(1,0,v0,n0),(-1,2,v0,.k 63)] rfl y0 y1
theorem l486 (y0:(122:Nat)=47):False:=S [] [] [(1,2,.k 122,n1)] rfl y0
theorem l487 (xa:Nat) (y0:(107<xa)∧((100<xa)∧((72<xa)∧(57<xa)))) (y1:107=xa+1+1):False:=S [xa] [] [(1,1,n19,v0),(-1,2,n19,.a (.a v0 n5) n5)] rfl y0.1 y1
theorem l488 :(4+3+10*5:Nat)<5000:=bc (S [] [] [(1,4,.a (.a n7 n9) (.m 10 n8),n15)] rfl)
theorem l489 (xa:Nat) (xp:Int) (y0:xp=(xa:Int)+4):0≤xp:=bc (S [xa] [xp] [(-1,7,v0,.a (.c v0) n7),(1,8,n4,v0)] rfl y0)
theorem l490 (xa xb xc xd xe xf:Nat) (y0:xb=xc) (y1:xc=xa+(xd+xe)) (y2:xd=1+xf+2):(xa:Int)+1+1<(xb:Int):=bc (S [xb,xc,xa,xd,xe,xf] [] [(-1,2,v0,v1),(-1,2,v1,.a v2 (.a v3 v4)),(-1,2,v3,.a (.a n5 v5) n6),(1,9,.a (.a (.c v2) n5) n5,.c v0)] rfl y0 y1 y2)
theorem l491 :(301+1+5:Nat)<500:=bc (S [] [] [(1,4,.a (.a (.k 301) n5) n8,n16)] rfl)
theorem l492 (xa xb:Nat) (y0:((xa-1:Nat):Int)<(xb:Int)):xa-1<xb:=bc (S [xa-1,xb] [] [(1,6,.c v0,.c v1),(1,4,v0,v1)] rfl y0)
theorem l493 :(4+3+10*10:Nat)<5000:=bc (S [] [] [(1,4,.a (.a n7 n9) (.m 10 n3),n15)] rfl)
theorem l494 (xa:Nat) (y0:xa≤100):(xa:Int)<2^63:=bc (S [xa] [] [(1,0,v0,n13),(1,9,.c v0,n12)] rfl y0)
theorem l495 (xa:Nat) (y0:(48≤xa)∧(xa≤57)) (y1:94=xa):False:=S [xa] [] [(1,0,v0,n0),(1,2,.k 94,v0)] rfl y0.2 y1
theorem l496 :(4+3+10*16:Nat)<5000:=bc (S [] [] [(1,4,.a (.a n7 n9) (.m 10 (.k 16)),n15)] rfl)
theorem l497 (xa:Nat) (y0:xa≤6):xa≤636:=bc (S [xa] [] [(1,0,v0,.k 6),(1,3,v0,.k 636)] rfl y0)
theorem l498 :(301+1+16:Nat)<500:=bc (S [] [] [(1,4,.a (.a (.k 301) n5) (.k 16),n16)] rfl)
theorem l499 (xa:Nat) (y0:(107<xa)∧((100<xa)∧((72<xa)∧(57<xa)))) (y1:72=xa+1):False:=S [xa] [] [(1,1,n19,v0),(-1,2,n18,.a v0 n5)] rfl y0.1 y1
theorem l500 (xp:Int) (y0:0≤xp):-(2^64)<xp:=bc (S [] [xp] [(1,5,n4,v0),(1,9,.g (.k 18446744073709551616),v0)] rfl y0)
theorem l501 (xa:Nat) (y0:0≤-(xa:Int)-1):False:=S [xa] [] [(1,5,n4,.s (.g (.c v0)) n5)] rfl y0
theorem l503 (xa:Nat) (y0:xa≤3):(xa:Int)≤16384:=bc (S [xa] [] [(1,0,v0,n9),(1,8,.c v0,.k 16384)] rfl y0)
theorem l504 (xa xb:Nat) (y0:72=xa+1+1+1) (y1:(72<xa)∧(xb<xa)):False:=S [xa] [] [(-1,2,n18,.a (.a (.a v0 n5) n5) n5),(1,1,n18,v0)] rfl y0 y1.1
theorem l505 (xp:Int) :0≤xp%1000:=bc (S [] [xp%1000] [(1,5,n4,v0),(1,8,n4,v0)] rfl (im0 xp (1000:Int) rfl))
theorem l506 (xa xb:Nat) (y0:xa=xb+5) (y1:xb≤5+1):xa≤11:=bc (S [xa,xb] [] [(1,2,v0,.a v1 n8),(1,0,v1,.a n8 n5),(1,3,v0,.k 11)] rfl y0 y1)
theorem l507 :(4+3+10*14:Nat)<5000:=bc (S [] [] [(1,4,.a (.a n7 n9) (.m 10 (.k 14)),n15)] rfl)
theorem l508 :0=((0:Nat):Int):=lI (bc (S [] [] [(1,8,n4,.c n4)] rfl)) (bc (S [] [] [(1,8,.c n4,n4)] rfl))
theorem l509 (xa:Nat) (y0:(72<xa)∧(72<xa)) (y1:xa+1=72):False:=S [xa] [] [(1,1,n18,v0),(1,2,.a v0 n5,n18)] rfl y0.1 y1
theorem l510 (xa:Nat) (y0:xa≤6):xa≤637:=bc (S [xa] [] [(1,0,v0,.k 6),(1,3,v0,.k 637)] rfl y0)
theorem l511 :(301+1+14:Nat)<500:=bc (S [] [] [(1,4,.a (.a (.k 301) n5) (.k 14),n16)] rfl)
theorem l512 :(301+1+12:Nat)<500:=bc (S [] [] [(1,4,.a (.a (.k 301) n5) (.k 12),n16)] rfl)
theorem l513 (xa xb:Nat) (y0:xa+1+1=100) (y1:(100<xa)∧(xb<xa)):False:=S [xa] [] [(1,2,.a (.a v0 n5) n5,n13),(1,1,n13,v0)] rfl y0 y1.1
theorem l514 (xa xb:Nat) (y0:xa+1=100) (y1:(100<xa)∧(xb<xa)):False:=S [xa] [] [(1,2,.a v0 n5,n13),(1,1,n13,v0)] rfl y0 y1.1
theorem l515 (xa xb xc:Nat) (y0:xa+1+1+1=107) (y1:(xb<xa)∧((107<xa)∧(xc<xa))):False:=S [xa] [] [(1,2,.a (.a (.a v0 n5) n5) n5,n19),(1,1,n19,v0)] rfl y0 y1.2.1
theorem l516 (xp:Int) (y0:xp<0):0≤-xp-1:=bc (S [] [xp] [(1,6,v0,n4),(1,8,n4,.s (.g v0) n5)] rfl y0)
theorem l517 (xa xb:Nat) (y0:xa=xb+2):2≤xa:=bc (S [xa,xb] [] [(-1,2,v0,.a v1 n6),(1,3,n6,v0)] rfl y0)
theorem l518 (xa:Nat) :((0:Int)≤0)∧(0≤(xa:Int)):=⟨bc (S [] [] [(1,8,n4,n4)] rfl), bc (S [xa] [] [(1,8,n4,.c v0)] rfl)⟩
theorem l519 (xa xb:Nat) (y0:(xa+1+1<xb)∧(xa+1<xb)) (y1:xa+1=xb):False:=S [xa,xb] [] [(1,1,.a (.a v0 n5) n5,v1),(-1,2,.a v0 n5,v1)] rfl y0.1 y1
theorem l520 (xa xb:Nat) (y0:xa=xb) (y1:xb≤100):(xa:Int)+1<2^62:=bc (S [xa,xb] [] [(1,2,v0,v1),(1,0,v1,n13),(1,9,.a (.c v0) n5,.k 4611686018427387904)] rfl y0 y1)
theorem l521 (xa xb:Nat) :(xa:Int)≤((xa+xb:Nat):Int):=bc (S [xa,xb] [] [(1,8,.c v0,.c (.a v0 v1))] rfl)
theorem l522 (xa:Nat) (y0:(107<xa)∧((100<xa)∧((72<xa)∧(57<xa)))) (y1:100=xa+1+1):False:=S [xa] [] [(1,1,n19,v0),(-1,2,n13,.a (.a v0 n5) n5)] rfl y0.1 y1
theorem l523 (xa:Nat) (y0:xa=33) (y1:xa=92):False:=S [xa] [] [(1,2,v0,.k 33),(-1,2,v0,.k 92)] rfl y0 y1
theorem l524 (xa:Nat) (y0:(47≤xa)∧(xa≤57)) (y1:xa=46):False:=S [xa] [] [(1,0,n1,v0),(1,2,v0,.k 46)] rfl y0.1 y1
theorem l525 (xa xb:Nat) (y0:xa=xb+2) (y1:xb≤2):xa≤100:=bc (S [xa,xb] [] [(1,2,v0,.a v1 n6),(1,0,v1,n6),(1,3,v0,n13)] rfl y0 y1)
theorem l526 (xp:Int) (y0:(0≤xp)∧(xp<1024000)):0≤xp/1000:=bc (S [] [xp,xp/1000,xp%1000] [(1,5,n4,v0),(-1,7,.a (.m 1000 v1) v2,v0),(1,6,v2,n14),(1000,8,n4,v1)] rfl y0.1 (mde xp (1000:Int)) (im1 xp (1000:Int) rfl))
theorem l527 :2<((1+1+1:Nat):Int):=bc (S [] [] [(1,9,n6,.c (.a (.a n5 n5) n5))] rfl)
theorem l528 :(10:Int)<2^64:=bc (S [] [] [(1,9,n3,.k 18446744073709551616)] rfl)
theorem l529 :(0+1:Nat)<2^62:=bc (S [] [] [(1,4,.a n4 n5,.k 4611686018427387904)] rfl)
theorem l530 (y0:(1:Nat)=0):False:=S [] [] [(1,2,n5,n4)] rfl y0
theorem l531 (xa:Nat) (y0:(107<xa)∧((100<xa)∧((72<xa)∧(57<xa)))) (y1:57=xa+1+1):False:=S [xa] [] [(1,1,n19,v0),(-1,2,n0,.a (.a v0 n5) n5)] rfl y0.1 y1
theorem l532 (xa:Nat) (y0:¬(xa<10)):9<xa:=bc (S [xa] [] [(1,4,v0,n3),(1,4,n2,v0)] rfl y0)
theorem l533 (xa xb:Nat) (y0:xa=xb+1):0<(xa:Int):=bc (S [xa,xb] [] [(-1,2,v0,.a v1 n5),(1,9,n4,.c v0)] rfl y0)
theorem l534 (xa:Nat) (y0:(107<xa)∧((100<xa)∧((72<xa)∧(57<xa)))) (y1:100=xa+1):False:=S [xa] [] [(1,1,n19,v0),(-1,2,n13,.a v0 n5)] rfl y0.1 y1
theorem l535 :(0:Int)≤2:=bc (S [] [] [(1,8,n4,n6)] rfl)
theorem l536 :((47:Nat)<48)∨((57:Nat)<47):=.inl (bc (S [] [] [(1,4,n1,n11)] rfl))
theorem l538 :(0+1:Nat)≤16777216:=bc (S [] [] [(1,3,.a n4 n5,n10)] rfl)
theorem l539 (xa xb:Nat) (y0:xa<xb):xa≤xb:=bc (S [xa,xb] [] [(1,1,v0,v1),(1,3,v0,v1)] rfl y0)
theorem l540 (xa:Nat) (y0:(107<xa)∧((100<xa)∧((72<xa)∧(57<xa)))) (y1:72=xa+1+1):False:=S [xa] [] [(1,1,n19,v0),(-1,2,n18,.a (.a v0 n5) n5)] rfl y0.1 y1
theorem l541 (xa xb xc xd xe xf:Nat) (y0:xb=xc) (y1:xc=xa+(xd+xe)) (y2:xd=0+xf+2):(xa:Int)<(xb:Int):=bc (S [xb,xc,xa,xd,xe,xf] [] [(-1,2,v0,v1),(-1,2,v1,.a v2 (.a v3 v4)),(-1,2,v3,.a (.a n4 v5) n6),(1,9,.c v2,.c v0)] rfl y0 y1 y2)
theorem l542 :((92:Nat)<48)∨((57:Nat)<92):=.inr (bc (S [] [] [(1,4,n0,.k 92)] rfl))
theorem l543 :(2:Int)<2^63:=bc (S [] [] [(1,9,n6,n12)] rfl)
theorem l544 (xa xb:Nat) (y0:(100<xa)∧(xb<xa)) (y1:xa+1+1=xb):False:=S [xb,xa] [] [(1,1,v0,v1),(1,2,.a (.a v1 n5) n5,v0)] rfl y0.2 y1
theorem l545 (xa xb:Nat) (y0:xa=xb) (y1:xb≤100):(xa:Int)<9223372036854775808:=bc (S [xa,xb] [] [(1,2,v0,v1),(1,0,v1,n13),(1,9,.c v0,n12)] rfl y0 y1)
theorem l546 (xa:Nat) (y0:xa=47):47≤xa:=bc (S [xa] [] [(-1,2,v0,n1),(1,3,n1,v0)] rfl y0)
theorem l547 (xa:Nat) (y0:¬(xa≤9)):9<xa:=bc (S [xa] [] [(1,3,v0,n2),(1,4,n2,v0)] rfl y0)
theorem l548 (y0:(92:Nat)=33):False:=S [] [] [(1,2,.k 92,.k 33)] rfl y0
theorem l549 (xa xb:Nat) (y0:(48≤xa)∧(xa≤57)) (y1:xb=xa) (y2:xb=92):False:=S [xa,xb] [] [(1,0,v0,n0),(1,2,v1,v0),(-1,2,v1,.k 92)] rfl y0.2 y1 y2
theorem l550 (xa:Nat) (y0:xa≤3):(xa:Int)<2^63:=bc (S [xa] [] [(1,0,v0,n9),(1,9,.c v0,n12)] rfl y0)
theorem l551 (y0:(45:Nat)=33):False:=S [] [] [(1,2,.k 45,.k 33)] rfl y0
theorem l552 (xa xb:Nat) (y0:xa=xb) (y1:xb≤5+1):xa≤6:=bc (S [xa,xb] [] [(1,2,v0,v1),(1,0,v1,.a n8 n5),(1,3,v0,.k 6)] rfl y0 y1)
theorem l553 (xa:Nat) (y0:xa=3):0<(xa:Int):=bc (S [xa] [] [(-1,2,v0,n9),(1,9,n4,.c v0)] rfl y0)
theorem l554 (xa:Nat) (y0:(48≤xa)∧(xa≤57)) (y1:xa=45):False:=S [xa] [] [(1,0,n11,v0),(1,2,v0,.k 45)] rfl y0.1 y1
theorem l555 (xa:Nat) (y0:¬(xa<1048576)):1048576≤xa:=bc (S [xa] [] [(1,4,v0,.k 1048576),(1,3,.k 1048576,v0)] rfl y0)
theorem l556 (xa:Nat) (y0:xa=3):1<(xa:Int):=bc (S [xa] [] [(-1,2,v0,n9),(1,9,n5,.c v0)] rfl y0)
theorem l557 :(0:Nat)<4096:=bc (S [] [] [(1,4,n4,.k 4096)] rfl)
theorem l558 (xp:Int) (y0:xp=0):xp<2^63:=bc (S [] [xp] [(1,7,v0,n4),(1,9,v0,n12)] rfl y0)
theorem l559 (xa:Nat) (y0:(107<xa)∧((100<xa)∧((72<xa)∧(57<xa)))) (y1:107=xa+1):False:=S [xa] [] [(1,1,n19,v0),(-1,2,n19,.a v0 n5)] rfl y0.1 y1
theorem l560 :(10:Nat)>0:=bc (S [] [] [(1,4,n4,n3)] rfl)
theorem l561 (xa:Nat) (y0:¬(xa/10≤9)):9<xa/10:=bc (S [xa/10] [] [(1,3,v0,n2),(1,4,n2,v0)] rfl y0)
theorem l563 (xa xb xc:Nat) (y0:xa+1+1=xb) (y1:(xc<xa)∧((107<xa)∧(xb<xa))):False:=S [xa,xb] [] [(1,2,.a (.a v0 n5) n5,v1),(1,1,v1,v0)] rfl y0 y1.2.2
theorem l564 (xa xb xc:Nat) (y0:xa+1=xb) (y1:(xc<xa)∧((107<xa)∧(xb<xa))):False:=S [xa,xb] [] [(1,2,.a v0 n5,v1),(1,1,v1,v0)] rfl y0 y1.2.2
theorem l565 (xa:Nat) (y0:(72<xa)∧(72<xa)) (y1:xa+1+1+1=72):False:=S [xa] [] [(1,1,n18,v0),(1,2,.a (.a (.a v0 n5) n5) n5,n18)] rfl y0.1 y1
theorem l566 (xp:Int) (y0:¬(xp<0)):0≤xp:=bc (S [] [xp] [(1,9,v0,n4),(1,8,n4,v0)] rfl y0)
theorem l567 (xa:Nat) (y0:xa≤6):xa≤640:=bc (S [xa] [] [(1,0,v0,.k 6),(1,3,v0,.k 640)] rfl y0)
theorem l568 (xa:Nat) (y0:2≤xa):0<(xa:Int):=bc (S [xa] [] [(1,0,n6,v0),(1,9,n4,.c v0)] rfl y0)
theorem l569 (xa:Nat) (y0:¬(xa<10)):xa/10<xa:=bc (S [xa,xa/10,xa%10] [] [(9,4,v0,n3),(1,2,.a (.m 10 v1) v2,v0),(10,4,v1,v0)] rfl y0 (dam xa (10:Nat)))
theorem l570 :(0:Nat)≤16777216:=bc (S [] [] [(1,3,n4,n10)] rfl)
theorem l571 :(3:Nat)≤100:=bc (S [] [] [(1,3,n9,n13)] rfl)
theorem l572 (xp:Int) :1000*(xp/1000)+xp%1000≤xp:=bc (S [] [xp/1000,xp%1000,xp] [(1,7,.a (.m 1000 v0) v1,v2),(1,8,.a (.m 1000 v0) v1,v2)] rfl (mde xp (1000:Int)))
theorem l573 :(0:Nat)=0:=lN (bc (S [] [] [(1,3,n4,n4)] rfl)) (bc (S [] [] [(1,3,n4,n4)] rfl))
theorem l574 (xa:Nat) (y0:1≤xa):0<(xa:Int):=bc (S [xa] [] [(1,0,n5,v0),(1,9,n4,.c v0)] rfl y0)
theorem l575 (xa:Nat) (y0:9<xa):9<(xa:Int):=bc (S [xa] [] [(1,1,n2,v0),(1,9,n2,.c v0)] rfl y0)
theorem l576 :(0+1:Nat)<4096:=bc (S [] [] [(1,4,.a n4 n5,.k 4096)] rfl)
theorem l577 (xp:Int) (y0:xp=1):xp<2^63:=bc (S [] [xp] [(1,7,v0,n5),(1,9,v0,n12)] rfl y0)
theorem l578 (xa xb xc xd xe xf:Nat) (y0:xb=xc) (y1:xc=xa+(xd+xe)) (y2:xd=1+xf+2):(xa:Int)<(xb:Int):=bc (S [xb,xc,xa,xd,xe,xf] [] [(-1,2,v0,v1),(-1,2,v1,.a v2 (.a v3 v4)),(-1,2,v3,.a (.a n5 v5) n6),(1,9,.c v2,.c v0)] rfl y0 y1 y2)
theorem l579 :((95:Nat)<48)∨((57:Nat)<95):=.inr (bc (S [] [] [(1,4,n0,.k 95)] rfl))
theorem l580 :(9:Int)≤1000000:=bc (S [] [] [(1,8,n2,.k 1000000)] rfl)
theorem l581 (xa:Nat) :(xa:Int)≤(xa:Int):=bc (S [xa] [] [(1,8,.c v0,.c v0)] rfl)
theorem l582 (xa xb:Nat) (y0:xa<xb) (y1:xb≤xa):False:=S [xa,xb] [] [(1,1,v0,v1),(1,0,v1,v0)] rfl y0 y1
theorem l583 (xa:Nat) (y0:(47≤xa)∧(xa≤57)) (y1:xa=91):False:=S [xa] [] [(1,0,v0,n0),(-1,2,v0,.k 91)] rfl y0.2 y1
theorem l584 :(-(2^64):Int)<0:=bc (S [] [] [(1,9,.g (.k 18446744073709551616),n4)] rfl)
theorem l585 :(0+1:Nat)≤16777216+1:=bc (S [] [] [(1,3,.a n4 n5,.a n10 n5)] rfl)
theorem l586 :(5:Nat)≤100:=bc (S [] [] [(1,3,n8,n13)] rfl)
theorem l587 :(3:Nat)≤640:=bc (S [] [] [(1,3,n9,.k 640)] rfl)
theorem l588 :(6:Nat)≤100:=bc (S [] [] [(1,3,.k 6,n13)] rfl)
theorem l589 (xa xb:Nat) (y0:xa≤xb) (y1:xb≤1000):(xa:Int)<9223372036854775808:=bc (S [xa,xb] [] [(1,0,v0,v1),(1,0,v1,n14),(1,9,.c v0,n12)] rfl y0 y1)
theorem l590 (xa:Nat) (y0:(72<xa)∧(72<xa)) (y1:72=xa+1+1):False:=S [xa] [] [(1,1,n18,v0),(-1,2,n18,.a (.a v0 n5) n5)] rfl y0.1 y1
theorem l591 (xa:Nat) (y0:xa<10):xa≤9:=bc (S [xa] [] [(1,1,v0,n3),(1,3,v0,n2)] rfl y0)
theorem l592 (xa:Nat) (xp:Int) (y0:xp=(xa:Int)+5):0≤xp:=bc (S [xa] [xp] [(-1,7,v0,.a (.c v0) n8),(1,8,n4,v0)] rfl y0)
theorem l593 (y0:(46:Nat)=47):False:=S [] [] [(-1,2,.k 46,n1)] rfl y0
theorem l594 :(0:Int)≤9:=bc (S [] [] [(1,8,n4,n2)] rfl)
theorem l595 (xa:Nat) (y0:¬(9<xa)):xa≤9:=bc (S [xa] [] [(1,4,n2,v0),(1,3,v0,n2)] rfl y0)
theorem l596 :(1:Nat)≤100:=bc (S [] [] [(1,3,n5,n13)] rfl)
theorem l597 :(2:Nat)≤5:=bc (S [] [] [(1,3,n6,n8)] rfl)
theorem l598 :(0:Int)<2^64:=bc (S [] [] [(1,9,n4,.k 18446744073709551616)] rfl)
theorem l599 :(2:Nat)≤6:=bc (S [] [] [(1,3,n6,.k 6)] rfl)
theorem l600 :(-1:Int)<0:=bc (S [] [] [(1,9,.g n5,n4)] rfl)
theorem l601 :(1:Nat)≤1:=bc (S [] [] [(1,3,n5,n5)] rfl)
theorem l602 (xa:Nat) (y0:xa=3) (y1:(xa:Int)≥2^63):False:=S [xa] [] [(1,2,v0,n9),(1,5,n12,.c v0)] rfl y0 y1
theorem l603 :(0:Nat)≤9:=bc (S [] [] [(1,3,n4,n2)] rfl)
theorem l604 :0<((1+1+1:Nat):Int):=bc (S [] [] [(1,9,n4,.c (.a (.a n5 n5) n5))] rfl)
theorem l605 :1<((1+1+1:Nat):Int):=bc (S [] [] [(1,9,n5,.c (.a (.a n5 n5) n5))] rfl)
theorem l606 :(1:Int)≤2:=bc (S [] [] [(1,8,n5,n6)] rfl)
theorem l607 :(0:Int)<2^63:=bc (S [] [] [(1,9,n4,n12)] rfl)
theorem l608 :(1:Int)<2^63:=bc (S [] [] [(1,9,n5,n12)] rfl)
theorem l610 (xp:Int) (y0:0≤xp) (y1:xp<0):False:=S [] [xp] [(1,5,n4,v0),(1,6,v0,n4)] rfl y0 y1
theorem l611 (xp:Int) (y0:xp=1):0≤xp:=bc (S [] [xp] [(-1,7,v0,n5),(1,8,n4,v0)] rfl y0)
theorem l612 (xp:Int) (y0:xp=0):0≤xp:=bc (S [] [xp] [(-1,7,v0,n4),(1,8,n4,v0)] rfl y0)
theorem l613 (xa xb xc:Nat) (y0:xc<xa):(¬(xa≤xb))∨(¬(xb≤xc)):=bc fun k0=>S [xc,xa,xb] [] [(1,1,v0,v1),(1,0,v1,v2),(1,0,v2,v0)] rfl y0 ((nnE (fun x=>k0 (.inl x)))) ((nnE (fun x=>k0 (.inr x))))
end Lx
end Mine
set_option compiler.extract_closed false
local macro_rules | `(tactic| omega) => `(tactic| first | k_extra "om" | omega (config := {}))
example : True := by
  w_top off
  k_with_none
  k_with "om" => (k_whole; (refine fun _ => ?_); with_reducible k_extra "of")
  k_with "om" => (k_whole; with_reducible k_extra "o")
  k_with "o" => ((show @LE.le Nat _ _ _); k_extra "oleN")
  k_with "o" => ((show @LT.lt Nat _ _ _); k_extra "oltN")
  k_with "o" => ((show @Eq Nat _ _); k_extra "oeqN")
  k_with "o" => ((show @LE.le Int _ _ _); k_extra "oleI")
  k_with "o" => ((show @LT.lt Int _ _ _); k_extra "oltI")
  k_with "o" => ((show @Eq Int _ _); k_extra "oeqI")
  k_with "o" => ((show _ ∧ _); k_extra "oand")
  k_with "o" => ((show False); k_extra "of")
  k_with "o" => (k_extra "ox")
  trivial
section
open PySem PySem.W PySem.Calls PyProof.Rows
namespace Mine
section
variable {prog : Program} {w : World} {A₀ A : Around} {s : Shared} {base h₀ : Heap} {outer : List Env} {L : Addr} {m mg mb : Str → Option Value} {env : Env} {K : Frag} {p : Program} {loose : List Str} {mean : ExcName → Option Value}
  {name qual : Str} {params : Arguments} {body : List Stmt} {scope : Scope} {dV kV doc pm cdv ct oc : Value} {an od : Option Addr} {osl : Array (Option Value)} {f : Addr} {args : Args} {binds : List (Str × Value)}
theorem enterP {R : Result → Shared → Prop} (B : Below A₀ base outer h₀) (F : Fr h₀ L s.heap m) (X₀ : K.In h₀) (T : Top p loose mean mg mb h₀) (hA : A.frames = some (env :: outer)) (hf : env.frame = some L) (hke : env.scope.kind = .function)
    (ho : K.lookup f = some ⟨oc, od, .func (fnOf name qual params body scope dV kV doc pm an cdv ct), osl⟩) (hcd : codeIn K cdv qual = true) (hroom : A.depth < recursionLimit)
    (hbind : BindsTo s (fnOf name qual params body scope dV kV doc pm an cdv ct) args binds) (hloc : ∀ y ∈ binds, scope.names.lookup y.1 = some .local)
    (hcell : ∀ x ∈ scope.names, x.2 ≠ .cell) (hco : scope.isCoroutine = false) (hgen : scope.isGenerator = false) (hk : scope.kind = .function)
    (h : ∀ L' h₁, Fr s.heap L' h₁ (fun y => binds.reverse.lookup y) → News s.heap L' h₁ [] → Below A base (env :: outer) s.heap → K.In s.heap → Top p loose mean mg mb s.heap →
      wpAny (model prog w) (A.deeper (envOf qual scope L' f cdv)) (execs body (envOf qual scope L' f cdv))
        (fun fl s' => R (.ok (.ret (match fl with | .ret v => v | _ => .none))) s')
        (fun e s' => wpAny (model prog w) (A.deeper (envOf qual scope L' f cdv)) (leaving (envOf qual scope L' f cdv) e) (fun _ s'' => R (.error e) s'') (fun e' s'' => R (.error e') s'') s')
        { s with heap := h₁, toks := s.toks + binds.length }) :
    codeAny (model prog w) A (.call (.ref f) args) R s := by
  have B₁ := pushX B F hf hke
  have hXs := X₀.keeps F.keep
  have hTs := T.keeps F.keep
  refine codeAny_call_def (fd := fnOf name qual params body scope dV kV doc pm an cdv ct) (body := body) (binds := binds) hroom (hXs _ _ ho) rfl hTs.nolimit (codeRec_of hXs hcd) rfl hbind hcell hloc (fun h₁ hns hk₁ => ?_) hco hgen hk
  exact h s.heap.objs.size h₁ ⟨hns, hk₁, Nat.le_refl _⟩ News.nil ⟨hA, B₁.stays, B₁.frames⟩ hXs hTs
end
end Mine
namespace Mine
noncomputable def sP (f : Addr) (D : Nat) (vs : List Value) (Pre : Heap → Prop) (Post : Heap → Value → Heap → Prop) : Prop :=
  ∀ {prog : Program} {w : World} {p : Program} {loose : List Str} {mean : ExcName → Option Value} {mg mb : Str → Option Value} {A : Around} {env : Env} {outer : List Env} {A₀ : Around} {base h₀ : Heap} {L : Addr} {m : Str → Option Value} {s : Shared} {Q E : Value → Shared → Prop},
    Below A₀ base outer h₀ → Fr h₀ L s.heap m → (hd.heap_1 w.params).In h₀ → Top p loose mean mg mb h₀ →
    A.handled = none → A.frames = some (env :: outer) → env.frame = some L → env.scope.kind = .function → A.depth + D < 500 → A.units + 10 * D < 5000 → Pre s.heap →
    (∀ v h' tk', s.heap.StaysIn h' → s.heap.objs.size ≤ h'.objs.size → Post s.heap v h' → Q v { s with heap := h', toks := tk' }) →
    wpAny (model prog w) A (call (.ref f) vs) Q E s
end Mine
namespace Mine
section
variable {h₀ h h' : Heap} {L : Addr} {m : Str → Option Value} {news : List (Addr × Obj)}
theorem frStays (F : Fr h₀ L h m) (hk : h.StaysIn h') : Fr h₀ L h' m := ⟨F.ns.keeps hk, fun b o e => hk b o (F.keep b o e), F.above⟩
theorem newsStays (N : News h₀ L h news) (hk : h.StaysIn h') : News h₀ L h' news := fun p hp => ⟨hk _ _ (N p hp).1, (N p hp).2⟩
end
noncomputable def PStr (x : Str) (_ : Heap) (v : Value) (_ : Heap) : Prop := ∃ t, v = .str x t
noncomputable def PInt (i : Int) (_ : Heap) (v : Value) (_ : Heap) : Prop := ∃ t, v = .int i t
noncomputable def PBool (b : Bool) (_ : Heap) (v : Value) (_ : Heap) : Prop := v = .bool b
noncomputable def nPr (_ : Heap) : Prop := True
end Mine
namespace Mine
section
variable {prog : Program} {w : World} {A₀ A : Around} {s : Shared} {base h₀ : Heap} {outer : List Env} {L : Addr} {m mg mb : Str → Option Value} {env : Env} {K : Frag} {p : Program} {loose : List Str} {mean : ExcName → Option Value}
  {name qual : Str} {params : Arguments} {body : List Stmt} {scope : Scope} {dV kV doc pm cdv ct oc : Value} {an od : Option Addr} {osl : Array (Option Value)} {f : Addr} {args : Args}
theorem enterR {R : Result → Shared → Prop} {o : Obj} {binds : Addr → List (Str × Value)} (B : Below A₀ base outer h₀) (F : Fr h₀ L s.heap m) (X₀ : K.In h₀) (T : Top p loose mean mg mb h₀) (hA : A.frames = some (env :: outer)) (hf : env.frame = some L) (hke : env.scope.kind = .function)
    (ho : K.lookup f = some ⟨oc, od, .func (fnOf name qual params body scope dV kV doc pm an cdv ct), osl⟩) (hcd : codeIn K cdv qual = true) (hroom : A.depth < recursionLimit)
    (hb : bindArgs (fnOf name qual params body scope dV kV doc pm an cdv ct) args = (alloc o >>= fun D => pure (binds D))) (hfr : o.isFreed = false) (hloc : ∀ D, ∀ y ∈ binds D, scope.names.lookup y.1 = some .local)
    (hcell : ∀ x ∈ scope.names, x.2 ≠ .cell) (hco : scope.isCoroutine = false) (hgen : scope.isGenerator = false) (hk : scope.kind = .function)
    (h : ∀ D L' h₁ tk, Fr s.heap L' h₁ (fun y => (binds D).reverse.lookup y) → News s.heap L' h₁ [(D, o)] → Below A base (env :: outer) s.heap → K.In s.heap → Top p loose mean mg mb s.heap →
      wpAny (model prog w) (A.deeper (envOf qual scope L' f cdv)) (execs body (envOf qual scope L' f cdv))
        (fun fl s' => R (.ok (.ret (match fl with | .ret v => v | _ => .none))) s')
        (fun e s' => wpAny (model prog w) (A.deeper (envOf qual scope L' f cdv)) (leaving (envOf qual scope L' f cdv) e) (fun _ s'' => R (.error e) s'') (fun e' s'' => R (.error e') s'') s')
        { s with heap := h₁, toks := tk }) :
    codeAny (model prog w) A (.call (.ref f) args) R s := by
  have B₁ := pushX B F hf hke
  have hXs := X₀.keeps F.keep
  have hTs := T.keeps F.keep
  refine codeAny_call_function (fd := fnOf name qual params body scope dV kV doc pm an cdv ct) (body := body) hroom (hXs _ _ ho) rfl hco hgen rfl (codeRec_of hXs hcd) ?_
  rw [hb]
  refine wpAny_bind (wpAny_alloc (wpAny_pure ?_))
  have hk0 : ∀ b x, s.heap.get? b = some x → (s.heap.push o).get? b = some x := fun b x e => Heap.get?_push_of_some _ e
  refine wpAny_newFunctionEnv hcell (hloc _) (fun h₁ hns hsb => ⟨(hTs.nolimit.keeps hk0).fresh _ hsb, codeAny_func ?_⟩) hk
  have hk₁ : ∀ b x, (s.heap.push o).get? b = some x → h₁.get? b = some x := fun b x e => hsb.extBut b x (Nat.ne_of_lt (Heap.lt_size e)) (Heap.get?_push_of_some _ e)
  refine h s.heap.objs.size (s.heap.push o).objs.size h₁ _ ⟨hns, fun b x e => hk₁ _ _ (hk0 _ _ e), by simp [Heap.size_push]⟩ (fun q hq => ?_) ⟨hA, B₁.stays, B₁.frames⟩ hXs hTs
  rw [List.mem_singleton.mp hq]
  exact ⟨hk₁ _ _ (Heap.get?_push_size _ hfr), by simp [Heap.size_push], Heap.get?_none_of_le (Nat.le_refl _)⟩
end
end Mine
namespace Mine
theorem pstr_of {x y : Str} {t : Tok} {h h' : Heap} (e : y = x) : PStr x h (.str y t) h' := ⟨t, e ▸ rfl⟩
theorem pint_of {x y : Int} {t : Tok} {h h' : Heap} (e : y = x) : PInt x h (.int y t) h' := ⟨t, e ▸ rfl⟩
theorem pbool_of {x y : Bool} {h h' : Heap} (e : y = x) : PBool x h (.bool y) h' := e ▸ rfl
end Mine
namespace Mine
noncomputable def PNew (O : Obj → Prop) (h : Heap) (v : Value) (h' : Heap) : Prop := ∃ a o, v = .ref a ∧ h.get? a = none ∧ h'.get? a = some o ∧ O o
theorem PNew.out {O : Obj → Prop} {h h' : Heap} {v : Value} {C : Prop} (x : PNew O h v h') (k : ∀ a o, v = .ref a → h.get? a = none → h'.get? a = some o → O o → C) : C := let ⟨a, o, e, l, g, q⟩ := x; k a o e l g q
theorem pnew_of {O : Obj → Prop} {h h' : Heap} {L : Addr} {news : List (Addr × Obj)} {a : Addr} {o : Obj} (N : News h L h' news) (hm : (a, o) ∈ news) (hO : O o) : PNew O h (.ref a) h' :=
  ⟨a, o, rfl, (N _ hm).2.2, (N _ hm).1, hO⟩
noncomputable def AllNe (d : Nat) : List (Addr × Obj) → Prop
  | [] => True
  | p :: r => @Ne Nat p.1 d ∧ AllNe d r
section
variable {h₀ h h' : Heap} {L a : Addr} {o : Obj} {m : Str → Option Value} {news : List (Addr × Obj)}
theorem newsNew (F : Fr h₀ L h m) (N : News h₀ L h news) (hk : h.StaysIn h') (hge : h.get? a = none) (hget : h'.get? a = some o) : News h₀ L h' ((a, o) :: news) := fun p hp => by
  rcases List.mem_cons.mp hp with rfl | hp
  · refine ⟨hget, fun q => ?_, ?_⟩
    · obtain ⟨oL, _, _, e, _⟩ := F.ns
      dsimp only at q
      rw [q, e] at hge; cases hge
    · cases q : h₀.get? a with
      | none => rfl
      | some x => rw [F.keep _ _ q] at hge; cases hge
  · exact ⟨hk _ _ (N p hp).1, (N p hp).2⟩
theorem newsNe (hge : h.get? a = none) : ∀ {news : List (Addr × Obj)}, News h₀ L h news → AllNe a news
  | [], _ => trivial
  | p :: r, N => ⟨(fun q => by have := (N p (.head _)).1; rw [q, hge] at this; cases this), newsNe hge fun q hq => N q (.tail _ hq)⟩
end
end Mine
namespace Mine
structure Fct (P : Prop) : Prop where
  out : P
theorem ne_true_of {b : Bool} (h : b = false) : ¬ b = true := by rw [h]; exact Bool.false_ne_true
end Mine
namespace Mine
theorem len_slash : (ofString "/").length = 1 := by decide +kernel
theorem len_empty : (ofString "").length = 0 := by decide +kernel
theorem len_dot : (ofString ".").length = 1 := by decide +kernel
theorem len_dots : (ofString "..").length = 2 := by decide +kernel
end Mine
namespace Mine
theorem genTok {M : Model} {A : Around} {E : Value → Shared → Prop} {α : Type} {t : Sem α} {Q : α → Shared → Prop} {s : Shared} (h : ∀ k, wpAny M A t Q E { heap := s.heap, gens := s.gens, drawn := s.drawn, toks := k, os := s.os }) : wpAny M A t Q E s := h s.toks
end Mine
namespace Mine
section
variable {prog : Program} {w : World} {A₀ A : Around} {s : Shared} {base h₀ : Heap} {outer : List Env} {L : Addr} {m mg mb : Str → Option Value} {env : Env} {K : Frag} {p : Program} {loose : List Str} {mean : ExcName → Option Value}
  {name qual : Str} {params : Arguments} {body : List Stmt} {scope : Scope} {dV kV doc pm cdv ct oc : Value} {an od : Option Addr} {osl : Array (Option Value)} {f : Addr} {args : Args} {binds : List (Str × Value)}
theorem enterC {R : Result → Shared → Prop} (B : Below A₀ base outer h₀) (F : Fr h₀ L s.heap m) (X₀ : K.In h₀) (T : Top p loose mean mg mb h₀) (hA : A.frames = some (env :: outer)) (hf : env.frame = some L) (hke : env.scope.kind = .function)
    (ho : K.lookup f = some ⟨oc, od, .func (fnOf name qual params body scope dV kV doc pm an cdv ct), osl⟩) (hcd : codeIn K cdv qual = true) (hroom : A.depth < recursionLimit)
    (hbind : BindsTo s (fnOf name qual params body scope dV kV doc pm an cdv ct) args binds) (hkind : (binds.all fun y => scope.names.lookup y.1 == some .local || scope.names.lookup y.1 == some .cell) = true)
    (hnd : ((cellsFrom 0 scope.names []).map (·.1)).Nodup) (hco : scope.isCoroutine = false) (hgen : scope.isGenerator = false) (hk : scope.kind = .function)
    (h : ∀ L' h₁ tk cells, Fr s.heap L' h₁ (bindL (envOfC qual scope L' f cdv).kindOf binds fun _ => none) → News s.heap L' h₁ cells →
      CellsAre (bindC (envOfC qual scope L' f cdv).kindOf binds fun _ => none) (cellsFrom (L' + 1) scope.names []) cells → Below A base (env :: outer) s.heap → K.In s.heap → Top p loose mean mg mb s.heap →
      wpAny (model prog w) (A.deeper (envOfC qual scope L' f cdv)) (execs body (envOfC qual scope L' f cdv))
        (fun fl s' => R (.ok (.ret (match fl with | .ret v => v | _ => .none))) s')
        (fun e s' => wpAny (model prog w) (A.deeper (envOfC qual scope L' f cdv)) (leaving (envOfC qual scope L' f cdv) e) (fun _ s'' => R (.error e) s'') (fun e' s'' => R (.error e') s'') s')
        { s with heap := h₁, toks := tk }) :
    codeAny (model prog w) A (.call (.ref f) args) R s := by
  have B₁ := pushX B F hf hke
  have hXs := X₀.keeps F.keep
  have hTs := T.keeps F.keep
  refine codeAny_call_function (fd := fnOf name qual params body scope dV kV doc pm an cdv ct) (body := body) hroom (hXs _ _ ho) rfl hco hgen rfl (codeRec_of hXs hcd) (hbind _ _ _ _ ?_)
  refine wpAny_newFunctionEnv_cells hk (kindsX hkind _) fun env' he s' x => ?_
  subst he
  refine ⟨hTs.nolimit.keeps x.toInCall.keep, codeAny_func ?_⟩
  obtain ⟨h₁, tk, rfl, _⟩ := x.done
  have hk₁ := x.toInCall.keep
  obtain ⟨cells, NC, Y⟩ := Cl.news (h₀ := s.heap) (Nat.le_refl _) fun n c hm => ⟨x.cell n c (lookup_of_mem_nodup (cellsFrom_names scope.names 0 (s.heap.objs.size + 1) [] [] rfl ▸ hnd) hm), x.above n c hm⟩
  exact h s.heap.objs.size h₁ tk cells ⟨x.toInCall.ns, hk₁, Nat.le_refl _⟩ NC Y ⟨hA, B₁.stays, B₁.frames⟩ hXs hTs
end
end Mine
namespace Mine
theorem cI {M : Model} {A : Around} {Q E : Value → Shared → Prop} {s : Shared} {vs : List Value} {f n : Addr} (e : f = n) (h : wpAny M A (call (.ref n) vs) Q E s) : wpAny M A (call (.ref f) vs) Q E s := e ▸ h
end Mine
namespace Mine
theorem szA {a b : Str} {m n : Nat} (ha : a.length ≤ m) (hb : b.length ≤ n) : (a ++ b).length ≤ m + n := by rw [Str.length_append]; exact Nat.add_le_add ha hb
theorem aL {a b : Prop} (h : a ∧ b) : a := h.1
theorem aR {a b : Prop} (h : a ∧ b) : b := h.2
theorem nG {a b : Nat} (h : b < a) : a ≠ b := Nat.ne_of_gt h
theorem nL {a b : Nat} (h : a < b) : a ≠ b := Nat.ne_of_lt h
theorem nS {α : Type} {a b : α} (h : a ≠ b) : b ≠ a := Ne.symm h
theorem szAx {xqa xqb : Str} {xqm xqn : Nat} (xqh : xqa.length ≤ xqm) (xqk : xqb.length ≤ xqn) : (xqa ++ xqb).length ≤ xqm + xqn := szA xqh xqk
theorem szL {x : Nat} (h : Nat.ble x 64 = true) : x ≤ 64 := Nat.le_of_ble_eq_true h
theorem szS {x y m n : Nat} (ha : x ≤ m) (hb : y ≤ n) (h : Nat.ble (m + n) sizeLine = true) : x + y ≤ sizeLine := Nat.le_trans (Nat.add_le_add ha hb) (Nat.le_of_ble_eq_true h)
theorem szT {x m : Nat} (ha : x ≤ m) (h : Nat.ble m sizeLine = true) : x ≤ sizeLine := Nat.le_trans ha (Nat.le_of_ble_eq_true h)
theorem room1 {a b c d k : Nat} (h : a + b < d) (e : Nat.ble (k + c) b = true) : a + k + c < d := Nat.lt_of_le_of_lt (by rw [Nat.add_assoc]; exact Nat.add_le_add_left (Nat.le_of_ble_eq_true e) a) h
theorem room0 {a b c d : Nat} (h : a + b < d) (e : Nat.ble c b = true) : a + c < d := Nat.lt_of_le_of_lt (Nat.add_le_add_left (Nat.le_of_ble_eq_true e) a) h
theorem roomL {a b d d' : Nat} (h : a + b < d) (e : Nat.ble d d' = true) : a < d' := Nat.lt_of_lt_of_le (Nat.lt_of_le_of_lt (Nat.le_add_right _ _) h) (Nat.le_of_ble_eq_true e)
end Mine
namespace Mine
noncomputable def SeqQ (M : Model) (A : Around) (rest : List Stmt) (env : Env) (Q : Flow → Shared → Prop) (E : Value → Shared → Prop) (f : Flow) (s' : Shared) : Prop :=
  match f with | .next => wpAny M A (execs rest env) Q E s' | f => Q f s'
structure CutH (Q Q' : Flow → Shared → Prop) : Prop where
  go : ∀ f s, Q f s → Q' f s
section
variable {M : Model} {A : Around} {st : Stmt} {rest : List Stmt} {env : Env} {Q Q₀ Q' : Flow → Shared → Prop} {E : Value → Shared → Prop} {s : Shared} {v : Value} {f : Flow}
theorem consCut (h : ∀ Q', CutH (SeqQ M A rest env Q E) Q' → wpAny M A (exec st env) Q' E s) : wpAny M A (execs (st :: rest) env) Q E s :=
  wpAny_execs_cons (h _ ⟨fun f s h => by cases f <;> exact h⟩)
theorem consCutV (_ : CutH Q₀ Q) (h : ∀ Q', CutH (SeqQ M A rest env Q E) Q' → wpAny M A (exec st env) Q' E s) : wpAny M A (execs (st :: rest) env) Q E s := consCut h
theorem consCutN (h : ∀ Q₁, CutH Q Q₁ → ∀ Q', CutH (SeqQ M A rest env Q₁ E) Q' → wpAny M A (exec st env) Q' E s) : wpAny M A (execs (st :: rest) env) Q E s := consCut (h Q ⟨fun _ _ h => h⟩)
theorem CutH.next (c : CutH (SeqQ M A rest env Q E) Q') (h : wpAny M A (execs rest env) Q E s) : Q' .next s := c.go _ _ h
theorem CutH.ret (c : CutH (SeqQ M A rest env Q E) Q') (h : Q (.ret v) s) : Q' (.ret v) s := c.go _ _ h
theorem CutH.brk (c : CutH (SeqQ M A rest env Q E) Q') (h : Q .brk s) : Q' .brk s := c.go _ _ h
theorem CutH.cont (c : CutH (SeqQ M A rest env Q E) Q') (h : Q .cont s) : Q' .cont s := c.go _ _ h
end
structure CutV {α : Type} (Q Q' : α → Shared → Prop) : Prop where
  go : ∀ v s, Q v s → Q' v s
section
variable {α : Type} {M : Model} {A : Around} {t : Sem α} {Q Q₀ : α → Shared → Prop} {E : Value → Shared → Prop} {s : Shared}
theorem cutV (h : ∀ Q', CutV Q Q' → wpAny M A t Q' E s) : wpAny M A t Q E s := h Q ⟨fun _ _ h => h⟩
theorem hasV (_ : CutV Q₀ Q) (h : wpAny M A t Q E s) : wpAny M A t Q E s := h
end
end Mine
namespace Mine
theorem addC {prog : Program} {w : World} {A : Around} {E : Value → Shared → Prop} {s : Shared} {x y : Str} {t u : Tok} {m n : Nat} {Q : Value → Shared → Prop} (hx : x.length ≤ m) (hy : y.length ≤ n) (hz : Nat.ble (m + n) sizeLine = true) (h : ∀ t' c, Q (.str (x ++ y) t') { s with toks := c }) :
    wpAny (model prog w) A (binaryOp .Add (.str x t) (.str y u)) Q E s := SBL.add (hsz := szS hx hy hz) (fun t' c _ => h t' c)
end Mine
namespace Mine
structure PoAt (M : Model) (A : Around) (env : Env) (E : Value → Shared → Prop) : Prop where
  go : ∀ hd, PassesOwnAt M (A.mark hd) A env E
theorem fnCut {M : Model} {A : Around} {env : Env} {body : List Stmt} {Q : Flow → Shared → Prop} {Q₂ E₂ : Value → Shared → Prop} {s : Shared}
    (h : ∀ Q₁ E₁, CutH Q Q₁ → PassesOwn M A env E₁ → PoAt M A env E₁ → wpAny M A (execs body env) Q₁ E₁ s) :
    wpAny M A (execs body env) Q (fun e s' => wpAny M A (leaving env e) (fun _ s'' => Q₂ e s'') E₂ s') s :=
  h Q _ ⟨fun _ _ h => h⟩ PassesOwn.leaving ⟨fun _ => PassesOwnAt.leaving⟩
end Mine
namespace Mine
@[irreducible] noncomputable def pick {α : Type} (_ : Nonempty α) (P : α → Prop) : α := Classical.epsilon (fun x => ¬ P x)
noncomputable def Body {α : Type} (P : α → Prop) (x : α) : Prop := P x
@[reducible] noncomputable def AllB {α : Type} (P : α → Prop) : Prop := ∀ x, Body P x
theorem bodyMk {α : Type} {P : α → Prop} {x : α} (h : P x) : Body P x := h
theorem neW : Nonempty World := ⟨⟨fun _ _ => 0, { strHash := fun _ => 0, shareClass := fun _ => 0, mergeTok := fun t => t, idOf := fun _ => 0, idOfShared := fun _ _ => 0, followText := fun _ => true, idOfImm := fun _ => 0 }⟩⟩
theorem neS : Nonempty Shared := ⟨{}⟩
theorem neD : Nonempty Drawn := ⟨{}⟩
inductive Seg
  | star | ques | sign (c : Nat) | cls (neg : Bool) (ds : List Nat) | rng (neg : Bool) (p q : Nat)
theorem neSeg : Nonempty Seg := ⟨.star⟩
theorem pickI {α : Type} {P : α → Prop} (n : Nonempty α := by first | infer_instance | exact neS | exact neD | exact neSeg) (h : Body P (pick n P)) : ∀ x, P x := by
  refine Classical.byContradiction fun hn => ?_
  have hn' : ∃ x, ¬ P x := Classical.byContradiction fun h2 => hn fun x => Classical.byContradiction fun h3 => h2 ⟨x, h3⟩
  have h' : P (pick n P) := h
  delta pick at h'
  exact Classical.epsilon_spec hn' h'
noncomputable def Body2 {α β : Type} (P : α → β → Prop) (x0 : α) (x1 : β) : Prop := P x0 x1
@[reducible] noncomputable def AllB2 {α β : Type} (P : α → β → Prop) : Prop := ∀ x0 x1, Body2 P x0 x1
theorem bodyMk2 {α β : Type} {P : α → β → Prop} {x0 : α} {x1 : β} (h : P x0 x1) : Body2 P x0 x1 := h
noncomputable def pick2 {α β : Type} (n0 : Nonempty α) (n1 : Nonempty β) (P : α → β → Prop) : α × β := pick (⟨(Classical.choice n0, Classical.choice n1)⟩) fun t => P t.1 t.2
theorem pickI2 {α β : Type} {P : α → β → Prop} (n0 : Nonempty α := by first | infer_instance | exact neS | exact neD | exact neSeg) (n1 : Nonempty β := by first | infer_instance | exact neS | exact neD | exact neSeg) (h : Body2 P (pick2 n0 n1 P).1 (pick2 n0 n1 P).2) : ∀ x0 x1, P x0 x1 := fun x0 x1 => by
  have z : ∀ t : α × β, P t.1 t.2 := pickI (h := h)
  exact z (x0, x1)
noncomputable def Body4 {α β γ δ : Type} (P : α → β → γ → δ → Prop) (x0 : α) (x1 : β) (x2 : γ) (x3 : δ) : Prop := P x0 x1 x2 x3
@[reducible] noncomputable def AllB4 {α β γ δ : Type} (P : α → β → γ → δ → Prop) : Prop := ∀ x0 x1 x2 x3, Body4 P x0 x1 x2 x3
theorem bodyMk4 {α β γ δ : Type} {P : α → β → γ → δ → Prop} {x0 : α} {x1 : β} {x2 : γ} {x3 : δ} (h : P x0 x1 x2 x3) : Body4 P x0 x1 x2 x3 := h
noncomputable def pick4 {α β γ δ : Type} (n0 : Nonempty α) (n1 : Nonempty β) (n2 : Nonempty γ) (n3 : Nonempty δ) (P : α → β → γ → δ → Prop) : α × β × γ × δ := pick (⟨(Classical.choice n0, Classical.choice n1, Classical.choice n2, Classical.choice n3)⟩) fun t => P t.1 t.2.1 t.2.2.1 t.2.2.2
theorem pickI4 {α β γ δ : Type} {P : α → β → γ → δ → Prop} (n0 : Nonempty α := by first | infer_instance | exact neS | exact neD | exact neSeg) (n1 : Nonempty β := by first | infer_instance | exact neS | exact neD | exact neSeg) (n2 : Nonempty γ := by first | infer_instance | exact neS | exact neD | exact neSeg) (n3 : Nonempty δ := by first | infer_instance | exact neS | exact neD | exact neSeg) (h : Body4 P (pick4 n0 n1 n2 n3 P).1 (pick4 n0 n1 n2 n3 P).2.1 (pick4 n0 n1 n2 n3 P).2.2.1 (pick4 n0 n1 n2 n3 P).2.2.2) : ∀ x0 x1 x2 x3, P x0 x1 x2 x3 := fun x0 x1 x2 x3 => by
  have z : ∀ t : α × β × γ × δ, P t.1 t.2.1 t.2.2.1 t.2.2.2 := pickI (h := h)
  exact z (x0, x1, x2, x3)
noncomputable def Body8 {α β γ δ ε ζ η θ : Type} (P : α → β → γ → δ → ε → ζ → η → θ → Prop) (x0 : α) (x1 : β) (x2 : γ) (x3 : δ) (x4 : ε) (x5 : ζ) (x6 : η) (x7 : θ) : Prop := P x0 x1 x2 x3 x4 x5 x6 x7
@[reducible] noncomputable def AllB8 {α β γ δ ε ζ η θ : Type} (P : α → β → γ → δ → ε → ζ → η → θ → Prop) : Prop := ∀ x0 x1 x2 x3 x4 x5 x6 x7, Body8 P x0 x1 x2 x3 x4 x5 x6 x7
theorem bodyMk8 {α β γ δ ε ζ η θ : Type} {P : α → β → γ → δ → ε → ζ → η → θ → Prop} {x0 : α} {x1 : β} {x2 : γ} {x3 : δ} {x4 : ε} {x5 : ζ} {x6 : η} {x7 : θ} (h : P x0 x1 x2 x3 x4 x5 x6 x7) : Body8 P x0 x1 x2 x3 x4 x5 x6 x7 := h
noncomputable def pick8 {α β γ δ ε ζ η θ : Type} (n0 : Nonempty α) (n1 : Nonempty β) (n2 : Nonempty γ) (n3 : Nonempty δ) (n4 : Nonempty ε) (n5 : Nonempty ζ) (n6 : Nonempty η) (n7 : Nonempty θ) (P : α → β → γ → δ → ε → ζ → η → θ → Prop) : α × β × γ × δ × ε × ζ × η × θ := pick (⟨(Classical.choice n0, Classical.choice n1, Classical.choice n2, Classical.choice n3, Classical.choice n4, Classical.choice n5, Classical.choice n6, Classical.choice n7)⟩) fun t => P t.1 t.2.1 t.2.2.1 t.2.2.2.1 t.2.2.2.2.1 t.2.2.2.2.2.1 t.2.2.2.2.2.2.1 t.2.2.2.2.2.2.2
theorem pickI8 {α β γ δ ε ζ η θ : Type} {P : α → β → γ → δ → ε → ζ → η → θ → Prop} (n0 : Nonempty α := by first | infer_instance | exact neS | exact neD | exact neSeg) (n1 : Nonempty β := by first | infer_instance | exact neS | exact neD | exact neSeg) (n2 : Nonempty γ := by first | infer_instance | exact neS | exact neD | exact neSeg) (n3 : Nonempty δ := by first | infer_instance | exact neS | exact neD | exact neSeg) (n4 : Nonempty ε := by first | infer_instance | exact neS | exact neD | exact neSeg) (n5 : Nonempty ζ := by first | infer_instance | exact neS | exact neD | exact neSeg) (n6 : Nonempty η := by first | infer_instance | exact neS | exact neD | exact neSeg) (n7 : Nonempty θ := by first | infer_instance | exact neS | exact neD | exact neSeg) (h : Body8 P (pick8 n0 n1 n2 n3 n4 n5 n6 n7 P).1 (pick8 n0 n1 n2 n3 n4 n5 n6 n7 P).2.1 (pick8 n0 n1 n2 n3 n4 n5 n6 n7 P).2.2.1 (pick8 n0 n1 n2 n3 n4 n5 n6 n7 P).2.2.2.1 (pick8 n0 n1 n2 n3 n4 n5 n6 n7 P).2.2.2.2.1 (pick8 n0 n1 n2 n3 n4 n5 n6 n7 P).2.2.2.2.2.1 (pick8 n0 n1 n2 n3 n4 n5 n6 n7 P).2.2.2.2.2.2.1 (pick8 n0 n1 n2 n3 n4 n5 n6 n7 P).2.2.2.2.2.2.2) : ∀ x0 x1 x2 x3 x4 x5 x6 x7, P x0 x1 x2 x3 x4 x5 x6 x7 := fun x0 x1 x2 x3 x4 x5 x6 x7 => by
  have z : ∀ t : α × β × γ × δ × ε × ζ × η × θ, P t.1 t.2.1 t.2.2.1 t.2.2.2.1 t.2.2.2.2.1 t.2.2.2.2.2.1 t.2.2.2.2.2.2.1 t.2.2.2.2.2.2.2 := pickI (h := h)
  exact z (x0, x1, x2, x3, x4, x5, x6, x7)
theorem mark {p : Prop} (h : p) : p := h
theorem exE {α : Type} {p : α → Prop} {G : Prop} (h : ∃ a, p a) (k : ∀ a, p a → G) : G := Exists.elim h k
theorem aE {a b G : Prop} (h : a ∧ b) (k : a → b → G) : G := k h.1 h.2
theorem or2E {a b G : Prop} (h : a ∨ b) (x : a → G) (y : b → G) : G := Or.elim h x y
theorem or3E {a b c G : Prop} (h : a ∨ b ∨ c) (x : a → G) (y : b → G) (z : c → G) : G := Or.elim h x fun h => Or.elim h y z
theorem or4E {a b c d G : Prop} (h : a ∨ b ∨ c ∨ d) (x : a → G) (y : b → G) (z : c → G) (u : d → G) : G := Or.elim h x fun h => Or.elim h y fun h => Or.elim h z u
theorem list_or {α : Type} (l : List α) : l = [] ∨ ∃ a r, l = a :: r := by cases l with | nil => exact .inl rfl | cons a r => exact .inr ⟨a, r, rfl⟩
theorem bool_or (b : Bool) : b = false ∨ b = true := by cases b; exact .inl rfl; exact .inr rfl
theorem nat_or (n : Nat) : n = 0 ∨ ∃ m, n = m + 1 := by cases n with | zero => exact .inl rfl | succ m => exact .inr ⟨m, rfl⟩
set_option genInjectivity false in
structure CtxQ where
  prog : Program
  w : World
  p : Program
  loose : List Str
  mean : ExcName → Option Value
  mg : Str → Option Value
  mb : Str → Option Value
  env : Env
  outer : List Env
  A₀ : Around
  base : Heap
  h₀ : Heap
  L : Addr
  m : Str → Option Value
  s : Shared
  Q : Value → Shared → Prop
  E : Value → Shared → Prop
  dp : Nat
  gd : Option (List Code)
  un : Nat
  mv : List (Addr × Obj)
theorem neC : Nonempty CtxQ := ⟨⟨default, Classical.choice neW, default, default, default, default, default, default, default, {}, default, default, default, default, {}, default, default, default, default, default, default⟩⟩
@[elab_as_elim] theorem PStr.out {x : Str} {h h' : Heap} {v : Value} {P : Value → Prop} (e : PStr x h v h') (k : ∀ t, P (.str x t)) : P v := by obtain ⟨t, e⟩ := e; rw [e]; exact k t
@[elab_as_elim] theorem PInt.out {x : Int} {h h' : Heap} {v : Value} {P : Value → Prop} (e : PInt x h v h') (k : ∀ t, P (.int x t)) : P v := by obtain ⟨t, e⟩ := e; rw [e]; exact k t
@[elab_as_elim] theorem PBool.out {x : Bool} {h h' : Heap} {v : Value} {P : Value → Prop} (e : PBool x h v h') (k : P (.bool x)) : P v := by unfold PBool at e; rw [e]; exact k
@[elab_as_elim] theorem PNew.outV {O : Obj → Prop} {h h' : Heap} {v : Value} {C : Value → Prop} (x : PNew O h v h') (k : ∀ a o, h.get? a = none → h'.get? a = some o → O o → C (.ref a)) : C v := by obtain ⟨a, o, e, l, g, q⟩ := x; rw [e]; exact k a o l g q
noncomputable def SpecPB (f : Addr) (D : Nat) (vs : List Value) (Pre : Heap → Prop) (Post : Heap → Value → Heap → Prop) (c : CtxQ) : Prop :=
    Below c.A₀ c.base c.outer c.h₀ → Fr c.h₀ c.L c.s.heap c.m → (hd.heap_1 c.w.params).In c.h₀ → Top c.p c.loose c.mean c.mg c.mb c.h₀ →
    c.env.frame = some c.L → c.env.scope.kind = .function → c.dp + D < 500 → c.un + 10 * D < 5000 → Pre c.s.heap →
    (∀ v h' tk', c.s.heap.StaysIn h' → c.s.heap.objs.size ≤ h'.objs.size → Post c.s.heap v h' → c.Q v { c.s with heap := h', toks := tk' }) →
    wpAny (model c.prog c.w) ⟨none, c.dp, some (c.env :: c.outer), c.gd, c.un⟩ (call (.ref f) vs) c.Q c.E c.s
theorem ctxP {f : Addr} {D : Nat} {vs : List Value} {Pre : Heap → Prop} {Post : Heap → Value → Heap → Prop} (h :
    Below (pick neC (SpecPB f D vs Pre Post)).A₀ (pick neC (SpecPB f D vs Pre Post)).base (pick neC (SpecPB f D vs Pre Post)).outer (pick neC (SpecPB f D vs Pre Post)).h₀ → Fr (pick neC (SpecPB f D vs Pre Post)).h₀ (pick neC (SpecPB f D vs Pre Post)).L (pick neC (SpecPB f D vs Pre Post)).s.heap (pick neC (SpecPB f D vs Pre Post)).m → (hd.heap_1 (pick neC (SpecPB f D vs Pre Post)).w.params).In (pick neC (SpecPB f D vs Pre Post)).h₀ → Top (pick neC (SpecPB f D vs Pre Post)).p (pick neC (SpecPB f D vs Pre Post)).loose (pick neC (SpecPB f D vs Pre Post)).mean (pick neC (SpecPB f D vs Pre Post)).mg (pick neC (SpecPB f D vs Pre Post)).mb (pick neC (SpecPB f D vs Pre Post)).h₀ →
    (pick neC (SpecPB f D vs Pre Post)).env.frame = some (pick neC (SpecPB f D vs Pre Post)).L → (pick neC (SpecPB f D vs Pre Post)).env.scope.kind = .function → (pick neC (SpecPB f D vs Pre Post)).dp + D < 500 → (pick neC (SpecPB f D vs Pre Post)).un + 10 * D < 5000 → Pre (pick neC (SpecPB f D vs Pre Post)).s.heap →
    (∀ v h' tk', (pick neC (SpecPB f D vs Pre Post)).s.heap.StaysIn h' → (pick neC (SpecPB f D vs Pre Post)).s.heap.objs.size ≤ h'.objs.size → Post (pick neC (SpecPB f D vs Pre Post)).s.heap v h' → (pick neC (SpecPB f D vs Pre Post)).Q v { (pick neC (SpecPB f D vs Pre Post)).s with heap := h', toks := tk' }) →
    wpAny (model (pick neC (SpecPB f D vs Pre Post)).prog (pick neC (SpecPB f D vs Pre Post)).w) ⟨none, (pick neC (SpecPB f D vs Pre Post)).dp, some ((pick neC (SpecPB f D vs Pre Post)).env :: (pick neC (SpecPB f D vs Pre Post)).outer), (pick neC (SpecPB f D vs Pre Post)).gd, (pick neC (SpecPB f D vs Pre Post)).un⟩ (call (.ref f) vs) (pick neC (SpecPB f D vs Pre Post)).Q (pick neC (SpecPB f D vs Pre Post)).E (pick neC (SpecPB f D vs Pre Post)).s) : sP f D vs Pre Post := by
  have h2 : ∀ c, SpecPB f D vs Pre Post c := pickI (n := neC) h
  intro prog w p loose mean mg mb A env outer A₀ base h₀ L m s Q E B F X T hhd hA hf hke hdp hun hpre hret
  obtain ⟨hd0, dp, fr, gd, un⟩ := A
  dsimp only at hhd hA hdp hun; subst hhd hA
  exact h2 ⟨prog, w, p, loose, mean, mg, mb, env, outer, A₀, base, h₀, L, m, s, Q, E, dp, gd, un, default⟩ B F X T hf hke hdp hun hpre hret
end Mine
end
section
open PySem PySem.W PySem.Calls PyProof.Rows
example : True := by
  k_with "oltN" => apply Lx.l2 <;> assumption
  k_with "oeqN" => apply Lx.l120 <;> assumption
  trivial
namespace Mine
theorem runsToks {M : Model} {Γ : Ctx} {p : Pos} {t : Sem PySem.Fin} {fs : List Frame} {s s' : Shared} {e : End} (h : Runs M Γ p t fs s e s') : s.toks ≤ s'.toks := by
  induction h with
  | done | raise | yield => exact Nat.le_refl _
  | again _ _ ih | rule _ ih | «at» _ ih | load _ _ ih | update _ _ ih | loadIfAlive _ ih | point _ ih | alloc _ ih | ask _ ih | choose _ _ ih | os _ ih | handled _ ih | genState _ _ ih | stack _ ih | thread _ ih | newGen _ ih | callSusp _ ih | resumeJustStarted _ _ _ ih | resumeThrowFresh _ _ ih | resumeRunning _ _ ih | resumeFinished _ _ ih | segSuspOut _ _ ih => exact ih
  | fresh _ ih => exact Nat.le_trans (Nat.le_succ _) ih
  | call _ _ ih1 ih2 | resumeFresh _ _ _ _ ih1 ih2 | resumeSuspended _ _ _ _ ih1 ih2 | segRet _ _ ih1 ih2 | segGen _ _ ih1 ih2 | segSuspGen _ _ _ _ ih1 ih2 => exact Nat.le_trans ih1 ih2
theorem wakesToks {M : Model} {Γ : Ctx} {p : Pos} {g : Nat} {r : Resume} {s s' : Shared} {res : GenResult} (h : Wakes M Γ p g r s res s') : s.toks ≤ s'.toks := by
  unfold Wakes at h
  split at h
  · exact h.elim
  · split at h
    · obtain ⟨e₁, s₁, h1, _, _, rfl⟩ := h; have h2 := runsToks h1; exact h2
    · rw [h.2]; exact Nat.le_refl _
    · rw [h.2]; exact Nat.le_refl _
  · obtain ⟨e₁, s₁, h1, _, _, rfl⟩ := h; have h2 := runsToks h1; exact h2
  · rw [h.2]; exact Nat.le_refl _
  · rw [h.2]; exact Nat.le_refl _
theorem wpToks {M : Model} {Γ : Ctx} {α : Type} {t : Sem α} {Q : α → Pos → Shared → Prop} {E : Value → Pos → Shared → Prop} {n : Nat} {p : Pos} {s : Shared} (hn : n ≤ s.toks) (h : Sem.wp M Γ t Q E p s) :
    Sem.wp M Γ t (fun a p' s' => n ≤ s'.toks ∧ Q a p' s') E p s := by
  induction t generalizing p s with
  | pure x => exact ⟨hn, h⟩
  | raise v => exact h
  | unsupported | finish | yield | fork | await | register => exact h
  | rule _ k ih | «at» _ k ih | alloc _ k ih | loadIfAlive _ k ih | point _ k ih | ask k ih | os _ _ k ih | handled _ k ih | newGen _ k ih | stack k ih | thread k ih => exact ih _ hn h
  | fresh k ih => exact ih _ (Nat.le_trans hn (Nat.le_succ _)) h
  | load a _ k ih | genState a k ih => obtain ⟨o, ho, h⟩ := h; exact ⟨o, ho, ih _ hn h⟩
  | update a _ f k ih => obtain ⟨o, h⟩ := h; exact ⟨o, ih _ hn h⟩
  | choose src _ k ih => obtain ⟨o, h⟩ := h; exact ⟨o, ih _ hn h⟩
  | call c hh g l k ih => obtain ⟨r, s', hr, h⟩ := h; exact ⟨r, s', hr, ih _ (Nat.le_trans hn (runsToks hr)) h⟩
  | resume g r l k ih => obtain ⟨r, s', hr, h⟩ := h; exact ⟨r, s', hr, ih _ (Nat.le_trans hn (wakesToks hr)) h⟩
noncomputable def TokQ (n : Nat) (R : Shared → Prop) (s : Shared) : Prop := n ≤ s.toks → R s
theorem TokQ.gen {n : Nat} {R : Shared → Prop} {s : Shared} (h : ∀ k, n ≤ k → R { heap := s.heap, gens := s.gens, drawn := s.drawn, toks := k, os := s.os }) : TokQ n R s := fun hn => h s.toks hn
theorem toksLe {M : Model} {A : Around} {α : Type} {t : Sem α} {Q : α → Shared → Prop} {E : Value → Shared → Prop} {n : Nat} {s : Shared} (hn : n ≤ s.toks) (h : wpAny M A t (fun a s' => TokQ n (Q a) s') E s) : wpAny M A t Q E s :=
  fun Γ p hΓ => Sem.wp_mono M Γ t (fun a _ s h => h.2 h.1) (fun _ _ _ h => h) p s (wpToks hn (h Γ p hΓ))
structure tAt (n k : Nat) : Prop where
  le : n ≤ k
structure TokV (n k : Nat) : Prop where
  le : n ≤ k
noncomputable def TokJ (n : Nat) (R : Shared → Prop) (s : Shared) : Prop := n ≤ s.toks → R s
theorem TokJ.gen {n : Nat} {R : Shared → Prop} {s : Shared} (h : n ≤ s.toks → R s) : TokJ n R s := h
theorem toksJ {M : Model} {A : Around} {α : Type} {t : Sem α} {Q : α → Shared → Prop} {E : Value → Shared → Prop} {n : Nat} {s : Shared} (hn : n ≤ s.toks) (h : wpAny M A t (fun a s' => TokJ n (Q a) s') E s) : wpAny M A t Q E s := toksLe hn h
section
variable {M : Model} {A : Around} {E : Value → Shared → Prop} {s : Shared} {env : Env} {n : Nat}
theorem execsConsT {st : Stmt} {rest : List Stmt} {Q : Flow → Shared → Prop} (hn : n ≤ s.toks) (h : wpAny M A (exec st env) (fun f s' => TokQ n (fun s' => match f with | .next => wpAny M A (execs rest env) Q E s' | f => Q f s') s') E s) :
    wpAny M A (execs (st :: rest) env) Q E s := wpAny_execs_cons (toksLe hn h)
theorem ifT {test : PySem.Expr} {body orelse : List Stmt} {pos : Pos} {Q : Flow → Shared → Prop} (hn : n ≤ s.toks)
    (h : wpAny M A (isTrue test env (eval test env)) (fun b s' => TokQ n (fun s₂ => if b = true then wpAny M A (execs body env) Q E s₂ else wpAny M A (execs orelse env) Q E s₂) s') E s) :
    wpAny M A (exec (.If test body orelse pos) env) Q E s := wpAny_If (toksLe hn h)
end
noncomputable def WhileStepX (h₀ : Heap) (L : Addr) (τ : Nat) (os : OsState) (J : Nat → (Str → Option Value) → List (Addr × Obj) → Prop) (n : Nat) (f : Flow) (s₃ : Shared) : Prop :=
  f = .next ∧ ∃ h' g d tk m₂ news₂ n', s₃ = { heap := h', gens := g, drawn := d, toks := tk, os := os } ∧ τ ≤ tk ∧ AllBare g ∧ Fr h₀ L h' m₂ ∧ News h₀ L h' news₂ ∧ n' < n ∧ J n' m₂ news₂
section
variable {prog : Program} {w : World} {A : Around} {E : Value → Shared → Prop} {Q : Flow → Shared → Prop} {s : Shared} {env : Env} {h₀ : Heap} {L : Addr} {τ : Nat}
theorem While_invX {test : PySem.Expr} {body : List Stmt} {pos : Pos} {m : Str → Option Value} {news : List (Addr × Obj)} (J : Nat → (Str → Option Value) → List (Addr × Obj) → Prop) {n₀ : Nat}
    (hτ : τ ≤ s.toks) (G : AllBare s.gens) (F : Fr h₀ L s.heap m) (N : News h₀ L s.heap news) (hJ : J n₀ m news)
    (turn : ∀ n m₁ news₁ h₁ g₁ d₁ tk₁, τ ≤ tk₁ → AllBare g₁ → Fr h₀ L h₁ m₁ → News h₀ L h₁ news₁ → J n m₁ news₁ →
      wpAny (model prog w) A (isTrue test env (eval test env)) (fun b s₂ => TokQ τ (fun s₂ =>
        if b = true then wpAny (model prog w) A (execs body env) (WhileStepX h₀ L τ s.os J n) E s₂ else Q .next s₂) s₂) E { heap := h₁, gens := g₁, drawn := d₁, toks := tk₁, os := s.os })
    (hE : PassesOwn (model prog w) A env E := by passes_own) :
    wpAny (model prog w) A (exec (.While test body [] pos) env) Q E s := by
  refine wpAny_While (codeAny_whileLoop (fun n s' => ∃ h₁ g₁ d₁ tk₁ m₁ news₁, s' = { heap := h₁, gens := g₁, drawn := d₁, toks := tk₁, os := s.os } ∧ τ ≤ tk₁ ∧ AllBare g₁ ∧ Fr h₀ L h₁ m₁ ∧ News h₀ L h₁ news₁ ∧ J n m₁ news₁) ?_ n₀ ⟨s.heap, s.gens, s.drawn, s.toks, m, news, rfl, hτ, G, F, N, hJ⟩)
  rintro n s' ⟨h₁, g₁, d₁, tk₁, m₁, news₁, rfl, hτ₁, G₁, F₁, N₁, J₁⟩
  refine wpAny_mono (toksLe hτ₁ (turn n m₁ news₁ h₁ g₁ d₁ tk₁ hτ₁ G₁ F₁ N₁ J₁)) (fun b s₂ h₂ => ?_) hE
  cases b with
  | false =>
    simp only [Bool.false_eq_true, if_false] at h₂ ⊢
    exact wpAny_execs_nil h₂
  | true =>
    simp only [if_true] at h₂ ⊢
    refine wpAny_mono h₂ (fun f s₃ h₃ => ?_) hE
    obtain ⟨rfl, h', g, d, tk, m₂, news₂, n', rfl, hτ₂, G₂, F₂, N₂, hn, J₂⟩ := h₃
    exact ⟨n', hn, h', g, d, tk, m₂, news₂, rfl, hτ₂, G₂, F₂, N₂, J₂⟩
end
end Mine
namespace Mine
theorem headOf {P : Prop} {h₀ h : Heap} {L x : Addr} {o : Obj} {rest : List (Addr × Obj)} (_ : News h₀ L h ((x, o) :: rest)) (k : ∀ y : Addr, y = x → P) : P := k x rfl
noncomputable def RngPost (h₀ : Heap) (L : Addr) (τ : Nat) (os : OsState) (Jn : (Str → Option Value) → List (Addr × Obj) → Prop) (I : Addr) (oI : Obj) (Q : Flow → Shared → Prop) (f : Flow) (s₃ : Shared) : Prop :=
  match f with
  | .ret v => Q (.ret v) s₃
  | .brk => Q .next s₃
  | _ => ∃ h g d tk m news, s₃ = { heap := h, gens := g, drawn := d, toks := tk, os := os } ∧ τ ≤ tk ∧ AllBare g ∧ Fr h₀ L h m ∧ News h₀ L h ((I, oI) :: news) ∧ (∀ p ∈ news, p.1 ≠ I) ∧ Jn m news
noncomputable def RngHit (h₀ : Heap) (L : Addr) (τ : Nat) (os : OsState) (J0 : (Str → Option Value) → List (Addr × Obj) → Prop) (a c : Int) (n : Nat) (xv : Value) (s₁ : Shared) : Prop :=
  ∃ r b t u v h g d tk m news, xv = .ref r ∧ s₁ = { heap := h, gens := g, drawn := d, toks := tk, os := os } ∧ IsRange h r a b c t u v ∧ Builtin.Range.small a b c = true ∧ Builtin.Range.rangeSize a b c = n ∧ τ ≤ tk ∧ AllBare g ∧ Fr h₀ L h m ∧ News h₀ L h news ∧ J0 m news
inductive RgI (h₀ : Heap) (L : Addr) (τ : Nat) (os : OsState) (n : Nat) (a c : Int) (I : Addr) (J : Nat → (Str → Option Value) → List (Addr × Obj) → Prop) (k : Nat) (s' : Shared) : Prop
  | mk (h' : Heap) (g' : Array GenState) (d' : Drawn) (tk' i : Nat) (m' : Str → Option Value) (news' : List (Addr × Obj)) (_ : s' = { heap := h', gens := g', drawn := d', toks := tk', os := os }) (_ : i ≤ n) (_ : k = n + 1 - i) (_ : τ ≤ tk') (_ : AllBare g') (_ : IsRangeIter h' I (a + (i : Nat) * c) ((n : Int) - (i : Nat)) c) (_ : Fr h₀ L h' m') (_ : News h₀ L h' news') (_ : ∀ p ∈ news', p.1 ≠ I) (_ : J i m' news')
section
variable {prog : Program} {w : World} {A : Around} {E : Value → Shared → Prop} {Q : Flow → Shared → Prop} {s : Shared} {env : Env} {h₀ : Heap} {L : Addr} {target iter : PySem.Expr} {body : List Stmt} {pos : Pos} {τ : Nat} {a c : Int} {n : Nat}
theorem forRng (J : Nat → (Str → Option Value) → List (Addr × Obj) → Prop) (hh : A.handled = none) (hτ : τ ≤ s.toks)
    (hit : wpAny (model prog w) A (eval iter env) (fun xv s₁ => TokQ τ (RngHit h₀ L τ s.os (J 0) a c n xv) s₁) E s)
    (step : ∀ i t m₁ news₁ h g d tk I oI, i < n → τ ≤ tk → AllBare g → J i m₁ news₁ → Fr h₀ L h m₁ → News h₀ L h ((I, oI) :: news₁) → (∀ p ∈ news₁, p.1 ≠ I) → (∀ p ∈ news₁, p.1 < I ∨ I < p.1) →
      wpAny (model prog w) A (assign target env (.int (a + i * c) t)) (fun _ s₂ => wpAny (model prog w) A (execs body env) (RngPost h₀ L τ s.os (J (i + 1)) I oI Q) E s₂) E { heap := h, gens := g, drawn := d, toks := tk, os := s.os })
    (done : ∀ m₁ news₁ h g d tk, τ ≤ tk → AllBare g → J n m₁ news₁ → Fr h₀ L h m₁ → News h₀ L h news₁ → Q .next { heap := h, gens := g, drawn := d, toks := tk, os := s.os })
    (ht : ∀ it v, letOwnedTupleGo target it v = pure () := by intro _ _; rfl)
    (hs : ∀ x, foldedSetIterable iter env x = pure x := by intro _; rfl)
    (hE : PassesOwn (model prog w) A env E := by passes_own) :
    wpAny (model prog w) A (exec (.For target iter body [] pos) env) Q E s := by
  refine wpAny_For (wpAny_mono (toksLe hτ hit) (fun xv s₁ h₁ => ?_) fun _ _ e => e) hs
  obtain ⟨r, b, t, u, v, h, g, d, tk, m, news, rfl, rfl, hr, hsm, hsz, hτ₁, G, F, N, J0⟩ := h₁
  refine wpAny_pyIter_range hr hsm ?_
  rw [hsz]
  have hI₀ : h₀.get? h.objs.size = none := next_is_new F
  have hIL : h.objs.size ≠ L := Nat.ne_of_gt F.ns.lt
  have W := Walks.range (prog := prog) (w := w) (A := A) hh h.objs.size a c n
  have keepF : ∀ {h' h'' : Heap} {m' : Str → Option Value}, Fr h₀ L h' m' → (∀ b o, b ∉ [h.objs.size] → h'.get? b = some o → h''.get? b = some o) → Fr h₀ L h'' m' := fun F' k =>
    ⟨F'.ns.at' fun o e => k L o (by simpa using Ne.symm hIL) e, fun b o e => k b o (fun q => by rw [List.mem_singleton.mp q, hI₀] at e; cases e) (F'.keep b o e), F'.above⟩
  have keepN : ∀ {h' h'' : Heap} {nw : List (Addr × Obj)}, News h₀ L h' nw → (∀ p ∈ nw, p.1 ≠ h.objs.size) → (∀ b o, b ∉ [h.objs.size] → h'.get? b = some o → h''.get? b = some o) → News h₀ L h'' nw := fun N' off k p hp =>
    ⟨k _ _ (by simpa using off p hp) (N' p hp).1, (N' p hp).2⟩
  refine codeAny_forLoop (RgI h₀ L τ s.os n a c h.objs.size J) ?_ (n + 1)
    ⟨_, g, d, tk, 0, m, news, rfl, Nat.zero_le _, rfl, hτ₁, G, by simpa using Heap.get?_push_size _ rfl, F.push _, (fun p hp => ⟨Heap.get?_push_of_some _ (N p hp).1, (N p hp).2⟩), (fun p hp => Nat.ne_of_lt (Heap.lt_size (N p hp).1)), J0⟩ (ht _)
  rintro k s' ⟨h', g', d', tk', i, m', news', rfl, hi, rfl, hτ', G', hit', F', N', off', hJ⟩
  by_cases hlt' : i < n
  · refine toksLe (n := τ) hτ' (W.item i _ _ _ hlt' hit' fun v h₁ tk₁ hv hst₁ hk₁ hτ₂ => ?_)
    have F₁ := keepF F' hk₁
    have N₁ := keepN N' off' hk₁
    obtain ⟨t', rfl⟩ := hv
    refine wpAny_passesOwn hE (wpAny_mono (step i t' m' news' h₁ g' d' tk₁ h.objs.size { cls := .type "range_iterator", dict := none, data := .fields #[rawInt (a + ((i + 1 : Nat) : Int) * c), rawInt ((n : Int) - ((i + 1 : Nat) : Int)), rawInt c], slots := #[] } hlt' hτ₂ G' hJ F₁ (fun p hp => ?_) off' fun p hp => Nat.lt_or_gt_of_ne (off' p hp)) (fun _ s₂ h₂ => wpAny_passesOwn hE (wpAny_mono h₂ (fun f s₃ h₃ => ?_) fun _ _ e => e)) fun _ _ e => e)
    · rcases List.mem_cons.mp hp with rfl | hp
      · exact ⟨hst₁, hIL, hI₀⟩
      · exact N₁ p hp
    · cases f with
      | ret v => exact h₃
      | brk => exact h₃
      | next =>
        obtain ⟨h₄, g₄, d₄, tk₄, m₄, news₄, rfl, hτ₄, G₄, F₄, N₄, off₄, J₄⟩ := h₃
        exact ⟨n + 1 - (i + 1), by omega, h₄, g₄, d₄, tk₄, i + 1, m₄, news₄, rfl, hlt', rfl, hτ₄, G₄, (N₄ _ (.head _)).1, F₄, (fun p hp => N₄ p (.tail _ hp)), off₄, J₄⟩
      | cont =>
        obtain ⟨h₄, g₄, d₄, tk₄, m₄, news₄, rfl, hτ₄, G₄, F₄, N₄, off₄, J₄⟩ := h₃
        exact ⟨n + 1 - (i + 1), by omega, h₄, g₄, d₄, tk₄, i + 1, m₄, news₄, rfl, hlt', rfl, hτ₄, G₄, (N₄ _ (.head _)).1, F₄, (fun p hp => N₄ p (.tail _ hp)), off₄, J₄⟩
  · have hin : i = n := by omega
    subst hin
    refine toksLe (n := τ) hτ' (W.done _ _ _ hit' fun h₁ tk₁ hk₁ hτ₂ => wpAny_execs_nil ?_)
    exact done m' news' h₁ g' d' tk₁ hτ₂ G' hJ (keepF F' hk₁) (keepN N' off' hk₁)
end
end Mine
namespace Mine
structure CutT (n : Nat) (Q Q' : Flow → Shared → Prop) : Prop where
  go : ∀ f s, TokQ n (Q f) s → Q' f s
section
variable {M : Model} {A : Around} {st : Stmt} {rest : List Stmt} {env : Env} {Q Q₀ Q' : Flow → Shared → Prop} {E : Value → Shared → Prop} {s : Shared} {v : Value} {f : Flow} {n n₀ : Nat}
theorem consCutT (hn : n ≤ s.toks) (h : ∀ Q', CutT n (SeqQ M A rest env Q E) Q' → wpAny M A (exec st env) Q' E s) : wpAny M A (execs (st :: rest) env) Q E s :=
  execsConsT hn (h _ ⟨fun f s h => by cases f <;> exact h⟩)
theorem consCutTV (_ : CutT n₀ Q₀ Q) (hn : n ≤ s.toks) (h : ∀ Q', CutT n (SeqQ M A rest env Q E) Q' → wpAny M A (exec st env) Q' E s) : wpAny M A (execs (st :: rest) env) Q E s := consCutT hn h
theorem consCutTW (_ : CutH Q₀ Q) (hn : n ≤ s.toks) (h : ∀ Q', CutT n (SeqQ M A rest env Q E) Q' → wpAny M A (exec st env) Q' E s) : wpAny M A (execs (st :: rest) env) Q E s := consCutT hn h
theorem consCutTN (hn : n ≤ s.toks) (h : ∀ Q₁, CutH Q Q₁ → ∀ Q', CutT n (SeqQ M A rest env Q₁ E) Q' → wpAny M A (exec st env) Q' E s) : wpAny M A (execs (st :: rest) env) Q E s := consCutT hn (h Q ⟨fun _ _ h => h⟩)
theorem CutT.next (c : CutT n (SeqQ M A rest env Q E) Q') (h : TokQ n (fun s => wpAny M A (execs rest env) Q E s) s) : Q' .next s := c.go _ _ h
theorem CutT.ret (c : CutT n (SeqQ M A rest env Q E) Q') (h : TokQ n (fun s => Q (.ret v) s) s) : Q' (.ret v) s := c.go _ _ h
theorem CutT.brk (c : CutT n (SeqQ M A rest env Q E) Q') (h : TokQ n (fun s => Q .brk s) s) : Q' .brk s := c.go _ _ h
theorem CutT.cont (c : CutT n (SeqQ M A rest env Q E) Q') (h : TokQ n (fun s => Q .cont s) s) : Q' .cont s := c.go _ _ h
end
end Mine
end
section
open PySem PySem.W PySem.Calls PyProof.Rows
example : True := by
  k_with "oleN" => apply Lx.l114
  k_with "ox" => apply Lx.l0 <;> assumption
  trivial
namespace Mine
open PySem.Builtin PySem.Builtin.Str in
theorem tr_look {prog : Program} {w : World} {A : Around} {E : Value → Shared → Prop} {s : Shared} {Q : Mapped → Shared → Prop} {d : Addr} {c : Nat} {f : Int → Option Value} (hm : s.heap.MapOf (intKind prog w) d f) (hv : f c = none) (hd : (d == sysModules) = false) (hh : A.handled = none)
    (hq : ∀ h' e k, s.toks ≤ k → Heap.NewExc s.heap h' e "KeyError" → Q .keep { s with heap := h', toks := k }) :
    wpAny (model prog w) A (tableLookup (.ref d) c) Q E s := by
  unfold tableLookup
  refine wpAny_bind (wpAny_attempt (wpAny_bind (wpAny_mkInt ?_)))
  refine wpAny_getItem_missing_of (k := (c : Int)) (f := f) (knd := intKind prog w) (by show decide _ = true; simp) hd hh hm hv fun h' e x => ?_
  dsimp only
  refine wpAny_bind (wpAny_isInstance (T := "KeyError") (U := "LookupError") (b := true) ?_ (by rw [isSubtype_type]; kernel_rfl) ?_)
  · obtain ⟨_, _, ob, t, g, c, _⟩ := x
    exact ⟨ob, g, c⟩
  · rw [if_pos rfl]
    exact wpAny_bind (wpAny_rule (wpAny_pure (hq _ _ _ (by (try dsimp only); omega) x)))
open PySem.Builtin PySem.Builtin.Str in
theorem tr_one {prog : Program} {w : World} {A : Around} {E : Value → Shared → Prop} {s : Shared} {Q : Value → Shared → Prop} {d : Addr} {c : Nat} {t : Tok} {f : Int → Option Value} (hc : c < 128) (hm : s.heap.MapOf (intKind prog w) d f) (hv : f c = none) (hd : (d == sysModules) = false) (hh : A.handled = none)
    (hq : ∀ h' e t' k, s.toks ≤ t' → Heap.NewExc s.heap h' e "KeyError" → Q (.str ⟨#[c]⟩ t') { s with heap := h', toks := k }) :
    wpAny (model prog w) A (call (.builtin "str.translate") [.str ⟨#[c]⟩ t, .ref d]) Q E s := by
  refine wpAny_call (codeAny_call_builtin F.slot_str_translate.plain F.entry_str_translate (F.slot_str_translate.check _ _ _ _ _ _ _ _ (typeIs_str _ _ _) (F.args_str_translate_2 _ _) ?_))
  unfold Builtin.«str.translate»
  refine wpAny_bind (wpAny_of_eq (a := (Value.str ⟨#[c]⟩ t, ⟨#[c]⟩, Value.ref d)) rfl ?_)
  have hA : (#[c].all (fun a => decide (a < 128)) 0 1) = true := by simp [hc]
  have h0 : tooLong 0 = false := by decide
  have h1 : tooLong 1 = false := by decide
  simp (config := {zeta := true}) only [Array.size, Str.length, List.length_cons, List.length_nil, Nat.zero_add, Nat.reduceBEq, Bool.false_eq_true, if_false, List.forIn_toArray, List.forIn_cons, List.forIn_nil, List.lookup_nil, hA, h0, if_true]
  refine wpAny_bind (wpAny_bind (wpAny_bind (tr_look hm hv hd hh fun h' e k hk x => ?_)))
  dsimp only
  refine wpAny_bind (wpAny_pure (wpAny_pure ?_))
  dsimp only
  refine wpAny_pure ?_
  simp only [h1, Bool.false_eq_true, if_false]
  refine wpAny_bind (wpAny_mkStr (wpAny_pure ?_) ?_)
  · have := hq h' e k (k + 1) hk x
    simpa using this
  · rw [sizeLine_eq]; simp [Str.length]
section
variable {h₀ h h' : Heap} {L a e : Addr} {m : Str → Option Value} {news : List (Addr × Obj)} {cls : String}
theorem frExc (F : Fr h₀ L h m) (x : Heap.NewExc h h' e cls) : Fr h₀ L h' m := frStays F x.1
theorem newsExc (N : News h₀ L h news) (x : Heap.NewExc h h' e cls) : News h₀ L h' news := newsStays N x.1
end
noncomputable def okKey (e : DictEntry) : Bool := match e.key with | .int i _ => e.hash == hashInt i | _ => false
theorem okKeys {prog : Program} {w : World} {es : Array DictEntry} (h : es.toList.all okKey = true) : KeysOf (intKind prog w) es := by
  intro e he
  have := List.all_eq_true.mp h e (by simpa using he)
  obtain ⟨hash, key, val⟩ := e
  cases key <;> simp [okKey] at this
  rename_i i t
  exact ⟨i, by show decide _ = true; simp, this⟩
theorem map45 {prog : Program} {w : World} {h : Heap} (X : (hd.heap_1 w.params).In h) : ∃ f, h.MapOf (intKind prog w) 45 f ∧ ∀ c : Nat, 47 ≤ c → c ≤ 57 → f (c : Int) = none := by
  have e := X 45 _ (show (hd.heap_1 w.params).lookup 45 = some _ from rfl)
  refine ⟨_, ⟨_, _, _, e, ⟨rfl, rfl, rfl⟩, rfl, okKeys (by kernel_rfl), fun k => rfl⟩, fun c h1 h2 => ?_⟩
  have : c = 47 ∨ c = 48 ∨ c = 49 ∨ c = 50 ∨ c = 51 ∨ c = 52 ∨ c = 53 ∨ c = 54 ∨ c = 55 ∨ c = 56 ∨ c = 57 := by omega
  rcases this with rfl | rfl | rfl | rfl | rfl | rfl | rfl | rfl | rfl | rfl | rfl <;> kernel_rfl
end Mine
end
section
open PySem PySem.W PySem.Calls PyProof.Rows
example : True := by
  k_with "oeqN" => apply Lx.l134 <;> assumption
  k_with "oeqN" => apply Lx.l573
  trivial
namespace Mine
section
variable {prog : Program} {w : World} {A : Around} {E : Value → Shared → Prop} {s : Shared} {h₀ : Heap} {L sa : Addr} {m : Str → Option Value} {news : List (Addr × Obj)} {g : Obj → List (Addr × Obj)} {so : Obj}
theorem wpAny_choose' {M : Model} {src : Source} {n : Nat} {Q : Nat → Shared → Prop} (h0 : n ≠ 0) (h : ∀ i d, i < n → Q i { s with drawn := d }) : wpAny M A (choose src n) Q E s := by
  intro p Γ hΓ
  exact ⟨h0, h _ _ (Nat.mod_lt _ (Nat.pos_of_ne_zero h0))⟩
theorem noBool_set : typeLookup (.type "set") (ofString "__bool__") = pure none := by rw [typeLookup_type, builtinLookup_eq_fast]; kernel_rfl
theorem truthySet {K : Type} [DecidableEq K] [BEq K] [LawfulBEq K] {knd : KeyKind prog w K} {S : K → Bool} {n : Nat} {Q : Bool → Shared → Prop} (N : News h₀ L s.heap news) (U : UpdF sa so news g) (hso : so.SetObjOf knd S n) (hfit : (n : Int) < 2 ^ 63)
    (h : ∀ tk, Q ((n : Int) != 0) { s with toks := tk }) : wpAny (model prog w) A (truthy (.ref sa)) Q E s := by
  obtain ⟨pre, post, rfl, _, _, _⟩ := U.split
  obtain ⟨hex, es, ep, t, hd, _, _, rfl, hf⟩ := hso
  have ho := (N _ (List.mem_append_right _ (.head _))).1
  have hT : s.TypeIs (.ref sa) "set" := ⟨_, ho, hex.1⟩
  have key : wpAny (model prog w) A (runValue (.builtin "len" ⟨[.ref sa], []⟩)) (fun r s' => r = .int es.size (s.toks + 1) ∧ Q ((es.size : Int) != 0) s') E s := by
    refine wpAny_runValue (codeAny_builtin entry_len ?_)
    rw [Around.under_plainId plain_len _]
    exact wpAny_mono (wpAny_len_body_set (Q := fun r s' => r = .int es.size (s.toks + 1) ∧ Q ((es.size : Int) != 0) s') ho hex hd hf hfit ⟨rfl, h _⟩)
      (fun fin s' h' => by obtain ⟨r, rfl, hq⟩ := h'; exact hq) fun _ _ e => e
  unfold truthy
  first
    | refine wpAny_bind (wpAny_callSpecial?_none (name := ofString "__bool__") hT noBool_set ?_)
    | refine wpAny_bind (wpAny_pure (wpAny_bind (wpAny_callSpecial?_none (name := ofString "__bool__") hT noBool_set ?_)))
  first
    | refine wpAny_bind (wpAny_specialOf (name := ofString "__len__") hT F.slot_set_len.lookup ?_)
    | refine wpAny_bind (wpAny_pure (wpAny_bind (wpAny_specialOf (name := ofString "__len__") hT F.slot_set_len.lookup ?_)))
  first
    | exact wpAny_bind (wpAny_mono key (fun r s' h' => by obtain ⟨rfl, hq⟩ := h'; exact wpAny_pure hq) fun _ _ e => e)
    | exact wpAny_bind (wpAny_pure (wpAny_bind (wpAny_mono key (fun r s' h' => by obtain ⟨rfl, hq⟩ := h'; exact wpAny_pure hq) fun _ _ e => e)))
theorem popPlace1 {t : SetTable} (h : t.place.size = 1) : t.popPlace = some 0 := by
  unfold SetTable.popPlace
  have : t.place.isEmpty = false := by simp [Array.isEmpty, h]
  rw [this, if_neg Bool.false_ne_true]
  simp only [h]
  congr 1
  split <;> omega
theorem popped1 {t : SetTable} (h : t.fits 1 = true) : (t.popped 0).fits 0 = true := by
  unfold SetTable.fits at h ⊢
  simp only [Bool.and_eq_true, beq_iff_eq, decide_eq_true_eq] at h ⊢
  obtain ⟨h1, h2⟩ := h
  obtain ⟨mask, place, dummies, finger, led, moves, plain⟩ := t
  obtain ⟨l⟩ := place
  match l, h1 with
  | [j], _ =>
    simp [SetTable.popped, SetTable.drop, SetTable.eraseAt, SetTable.insertAt, SetTable.fill] at h2 ⊢
    omega
theorem setPop1 {v : Int} {S : Int → Bool} {Q : Option Value → Shared → Prop} (F : Fr h₀ L s.heap m) (N : News h₀ L s.heap news) (U : UpdF sa so news g) (hso : so.SetObjOf (intKind prog w) S 1) (hv : ∀ k, S k = true → k = v)
    (h : ∀ h' so' t' d', Fr h₀ L h' m → News h₀ L h' (g so') → so'.SetObjOf (intKind prog w) (fun _ => false) 0 → Q (some (.int v t')) { s with heap := h', drawn := d' }) :
    wpAny (model prog w) A (setPop sa) Q E s := by
  obtain ⟨pre, post, rfl, hg, a, b⟩ := U.split
  have hm := N (sa, so) (List.mem_append_right _ (.head _))
  obtain ⟨hex, es, ep, t, hd, hel, hmem, hn, hf⟩ := hso
  obtain ⟨⟨hh, x⟩, he⟩ := Array.size_eq_one_iff.mp hn
  subst he
  obtain ⟨⟨k, hk, _⟩, _⟩ := hel (hh, x) (.head _)
  obtain ⟨tx, rfl⟩ := Value.isInt_shape hk
  obtain rfl := hv k ((hmem k).mpr ⟨_, .head _, hk⟩)
  have hp : t.place.size = 1 := by
    unfold SetTable.fits at hf
    simp only [Bool.and_eq_true, beq_iff_eq, decide_eq_true_eq] at hf
    exact hf.1
  have fin : ∀ d, wpAny (model prog w) A (do storeSet sa (SetTable.eraseAt #[(hh, Value.int k tx)] 0) (t.popped 0); return some (Value.int k tx)) Q E { s with drawn := d } := by
    intro d
    refine wpAny_bind (wpAny_storeSet_of (s := { s with drawn := d }) hm.1 hd ?_ (by rw [sizeLine_eq]; simp [SetTable.eraseAt]))
    obtain ⟨_, hS⟩ := SetOf_store (knd := intKind prog w) (es' := SetTable.eraseAt #[(hh, Value.int k tx)] 0) (t' := t.popped 0) (S' := fun _ => false) hm.1 hex hd (fun e he => by simp [SetTable.eraseAt] at he) (fun k' => by simp [SetTable.eraseAt]) (by simp [SetTable.eraseAt, scanBound]) (popped1 hf)
    obtain ⟨so', ho', hso'⟩ := hS.objOf
    have hsb := Heap.SameBut.update s.heap sa (Obj.putSet (SetTable.eraseAt #[(hh, Value.int k tx)] 0) (t.popped 0))
    exact wpAny_pure (h _ so' _ _ (F.change hsb hm.2.1 hm.2.2) (hg so' ▸ N.setIn a b hsb ho') hso')
  unfold setPop setsByText
  refine wpAny_bind (wpAny_setState_of hm.1 hd hf ?_)
  dsimp only
  rw [popPlace1 hp]
  dsimp only
  refine wpAny_bind (wpAny_bind (wpAny_askSetting (wpAny_pure ?_)))
  split
  · refine wpAny_bind (wpAny_choose' (by simp) fun i d hi => ?_)
    obtain rfl : i = 0 := by simp at hi; exact hi
    exact fin d
  · refine wpAny_bind (wpAny_of_eq (a := ()) (by obtain ⟨_, _, _, _, led, _, _⟩ := t; cases led <;> rfl) ?_)
    exact wpAny_bind (wpAny_pure (fin s.drawn))
theorem pop1 {v : Int} {S : Int → Bool} {Q : Value → Shared → Prop} (F : Fr h₀ L s.heap m) (N : News h₀ L s.heap news) (U : UpdF sa so news g) (hso : so.SetObjOf (intKind prog w) S 1) (hv : ∀ k, S k = true → k = v)
    (h : ∀ h' so' t' d', Fr h₀ L h' m → News h₀ L h' (g so') → so'.SetObjOf (intKind prog w) (fun _ => false) 0 → Q (.int v t') { s with heap := h', drawn := d' }) :
    wpAny (model prog w) A (call (.builtin "set.pop") [.ref sa]) Q E s := by
  have hT : s.TypeIs (.ref sa) "set" := by
    obtain ⟨pre, post, rfl, _, _, _⟩ := U.split
    exact ⟨_, (N _ (List.mem_append_right _ (.head _))).1, hso.1.1⟩
  refine wpAny_call (codeAny_call_builtin PySem.F.slot_set_pop.plain PySem.F.entry_set_pop (PySem.F.slot_set_pop.check _ _ _ _ _ _ _ _ hT (PySem.F.args_set_pop_1 _) ?_))
  unfold Builtin.«set.pop»
  refine wpAny_bind (wpAny_of_eq (a := sa) rfl ?_)
  refine wpAny_bind (setPop1 (s := s) F N U hso hv fun h' so' t' d' F' N' x => ?_)
  exact wpAny_pure (h _ _ _ _ F' N' x)
theorem getMethod_pop {K : Type} [DecidableEq K] [BEq K] [LawfulBEq K] {knd : KeyKind prog w K} {S : K → Bool} {n : Nat} {pl : Sem Bool} {Q : Value × List Value → Shared → Prop} (N : News h₀ L s.heap news) (U : UpdF sa so news g) (hso : so.SetObjOf knd S n) (h : Q (.builtin "set.pop", [.ref sa]) s) :
    wpAny (model prog w) A (getMethod (.ref sa) "pop" pl) Q E s := by
  obtain ⟨pre, post, rfl, _, _, _⟩ := U.split
  have ho := (N _ (List.mem_append_right _ (.head _))).1
  exact getMethod_builtin ⟨_, ho, hso.1.1⟩ F.plainAttrs_set F.slot_set_pop F.type_set_pop (fun a e => by cases e; exact ⟨_, ho, hso.1.2.1⟩) h
end
end Mine
end
section
open PySem PySem.W PySem.Calls PyProof.Rows
example : True := by
  k_with "oleN" => apply Lx.l306 <;> assumption
  trivial
namespace Mine
theorem slot_md_get : Slot "method_descriptor" "__get__" "method_descriptor.__get__" :=
  .of (owner := "method_descriptor") (n := "__get__") (by rw [typeLookup_type, builtinLookup_eq_fast]; kernel_rfl) (by decide +kernel) (by decide +kernel) (by decide +kernel) (by first | exact .inl (by decide +kernel) | exact .inr (by decide +kernel)) (by rw [isSubtype_type]; kernel_rfl)
theorem no_md_set : typeLookup (.type "method_descriptor") "__set__" = pure none := by rw [typeLookup_type, builtinLookup_eq_fast]; kernel_rfl
theorem no_md_del : typeLookup (.type "method_descriptor") "__delete__" = pure none := by rw [typeLookup_type, builtinLookup_eq_fast]; kernel_rfl
theorem entry_md_get : entryFor table "method_descriptor.__get__" = some Builtin.«method_descriptor.__get__» := entryFor_of_tree (by kernel_rfl)
theorem entry_md_get_obj : entryFor table ("method_descriptor.__get__" ++ "#obj") = some Builtin.«method_descriptor.__get__#obj» := entryFor_of_tree (by kernel_rfl)
theorem args_md_get (a b c : Value) : argsOk "method_descriptor.__get__" ⟨[a, b, c], []⟩ := by unfold argsOk; kernel_rfl
theorem owner_append : ".".intercalate ("list.append".cutAt '.').dropLast = "list" := by decide +kernel
theorem sub_list_owner : isSubtype (.type "list") (.type (".".intercalate ("list.append".cutAt '.').dropLast)) = pure true := by rw [owner_append, isSubtype_type]; kernel_rfl
theorem name_append : ofString ((("list.append".cutAt '.').getLastD "")) = ofString "append" := by decide +kernel
theorem told_append : Manifest.toldItsClass.contains "list.append" = false := by decide +kernel
section
variable {prog : Program} {w : World} {A : Around} {E : Value → Shared → Prop} {h : Heap} {g : Array GenState} {d : Drawn} {t : Nat} {os : OsState} {a : Addr} {xs : Array Value} {k : Nat} {sl : Array (Option Value)}
noncomputable abbrev boundO (a : Addr) : Obj := { cls := .type "builtin_function_or_method", data := .fields #[.builtin "list.append", .ref a] }
theorem app_entry {tk : Tok} {Q : PySem.Fin → Shared → Prop} (hx : h.get? a = some { cls := .type "list", dict := none, data := .seq xs k, slots := sl }) (hq : Q (.done (.ret (.ref h.objs.size))) ⟨h.push (boundO a), g, d, t, os⟩) :
    wpAny (model prog w) A (Builtin.«object.__getattribute__» ⟨[.ref a, .str "append" tk], []⟩) Q E ⟨h, g, d, t, os⟩ := by
  have hT : (⟨h, g, d, t, os⟩ : Shared).TypeIs (.ref a) "list" := ⟨_, hx, rfl⟩
  have hT5 : (⟨h, g, d, t, os⟩ : Shared).TypeIs (.builtin "list.append") "method_descriptor" := F.type_list_append
  have f4 := F.slot_list_append.lookup
  have f5 := F.type_list_append
  have f6 := slot_md_get.lookup
  have f7 := no_md_set
  have f8 := no_md_del
  unfold Builtin.«object.__getattribute__»
  repeat (any_goals (first | assumption | wp_step))
  refine codeAny_call_builtin slot_md_get.plain entry_md_get (slot_md_get.check _ _ _ _ _ _ _ _ hT5 (args_md_get _ _ _) ?_)
  have f9 := sub_list_owner
  have f10 := told_append
  clear f4 f5 f6 f7 f8
  unfold Builtin.«method_descriptor.__get__»
  refine wpAny_bind (wpAny_of_eq (a := (.builtin "list.append", some (.ref a), some (.type "list"))) rfl ?_)
  dsimp only
  rw [f10]
  rw [if_neg Bool.false_ne_true]
  refine wpAny_bind ?_
  refine wpAny_bind (wpAny_of_eq (a := (ofString "append", Value.type (".".intercalate ("list.append".cutAt '.').dropLast))) ?_ ?_)
  · exact congrArg (fun x : Str => (pure (x, Value.type (".".intercalate ("list.append".cutAt '.').dropLast)) : Sem (Str × Value))) name_append
  refine wpAny_bind (wpAny_isInstance (T := "list") hT f9 ?_)
  simp only [Bool.not_true, Bool.false_eq_true, if_false]
  refine wpAny_pure ?_
  refine wpAny_bind (wpAny_bind (wpAny_alloc ?_))
  exact wpAny_pure (wpAny_pure (wpAny_pure hq))
theorem app_call {tk : Tok} {Q : Value → Shared → Prop} (hx : h.get? a = some { cls := .type "list", dict := none, data := .seq xs k, slots := sl }) (hq : Q (.ref h.objs.size) ⟨h.push (boundO a), g, d, t, os⟩) :
    wpAny (model prog w) A (call (.builtin "list.__getattribute__") [.ref a, .str "append" tk]) Q E ⟨h, g, d, t, os⟩ :=
  wpAny_call (codeAny_call_builtin F.slot_list_getattribute.plain am_entry_list_getattribute (F.slot_list_getattribute.check _ _ _ _ _ _ _ _ (show (⟨h, g, d, t, os⟩ : Shared).TypeIs (.ref a) "list" from ⟨_, hx, rfl⟩) (F.args_list_getattribute_2 _ _) (app_entry hx hq)))
theorem app_get {Q : Value → Shared → Prop} (hx : h.get? a = some { cls := .type "list", dict := none, data := .seq xs k, slots := sl }) (hq : Q (.ref h.objs.size) ⟨h.push (boundO a), g, d, t + 1, os⟩) :
    wpAny (model prog w) A (getAttr (.ref a) "append" true) Q E ⟨h, g, d, t, os⟩ := by
  have hT : ∀ tk', (⟨h, g, d, tk', os⟩ : Shared).TypeIs (.ref a) "list" := fun _ => ⟨_, hx, rfl⟩
  have f3 := F.slot_list_getattribute.lookup
  have f4 := F.slot_list_getattribute.bind (.ref a)
  have f5 := am_list_getattr_none
  unfold getAttr getAttrBy
  repeat (any_goals (first | assumption | exact hT _ | ((with_reducible show wpAny _ _ (call (Value.builtin "list.__getattribute__") _) _ _ _); refine app_call hx ?_) | wp_step))
end
section
variable {prog : Program} {w : World} {A : Around} {E : Value → Shared → Prop} {s : Shared} {h₀ : Heap} {L D b : Addr} {m : Str → Option Value} {news : List (Addr × Obj)} {g : Obj → List (Addr × Obj)} {o : Obj} {x : Value}
theorem sig_append : Manifest.signature? "list.append" = some ⟨.oneArg, "list.append", "append", .self, [⟨"object", .posOnly, true⟩]⟩ := by
  rw [signature?_of (id := "list.append") (n := ['d', 'n', 'e', 'p', 'p', 'a']) (o := ['t', 's', 'i', 'l']) (by kernel_rfl) F.owner_list]; kernel_rfl
theorem kind_append : builtinKind "list.append" = some .method := by decide +kernel
theorem sub_list_module : isSubtype (.type "list") (.type "module") = pure false := by rw [isSubtype_type]; kernel_rfl
theorem vm_append : Manifest.varargsMethods.contains "list.append" = false := by decide +kernel
theorem args_app (a b : Value) : Bind.checkArgs "list.append" ⟨.oneArg, s!"{Bind.lastOf "list"}.{Bind.lastOf "list.append"}", "append", .self, [⟨"object", .posOnly, true⟩]⟩ ⟨[a, b], []⟩ = pure () := by kernel_rfl
theorem check_app {Q : Unit → Shared → Prop} (hD : s.heap.get? D = some o) (hc : o.cls = .type "list") (hd : ∃ xs k, o.data = .seq xs k) (h : Q () s) : wpAny (model prog w) A (checkBoundCall "list.append" ⟨[.ref D, x], []⟩) Q E s := by
  obtain ⟨xs, k, hd⟩ := hd
  unfold checkBoundCall
  rw [sig_append]
  dsimp only
  rw [kind_append]
  dsimp only
  rw [if_neg (by decide)]
  refine wpAny_bind (wpAny_isInstance (T := "list") ⟨_, hD, hc⟩ sub_list_module ?_)
  rw [vm_append]
  rw [if_neg (by decide)]
  refine wpAny_bind (wpAny_bind (wpAny_load hD ?_))
  rw [hd]
  refine wpAny_pure ?_
  rw [if_neg Bool.false_ne_true]
  refine wpAny_bind (wpAny_typeOf (T := "list") ⟨_, hD, hc⟩ ?_)
  exact wpAny_of_eq (args_app _ _) h
theorem app_bound {R : Result → Shared → Prop} (hb : s.heap.get? b = some (boundO D)) (hD : s.heap.get? D = some o) (hc : o.cls = .type "list") (hd : ∃ xs k, o.data = .seq xs k) (h : codeAny (model prog w) A (.builtin "list.append" ⟨[.ref D, x], []⟩) R s) : codeAny (model prog w) A (.call (.ref b) ⟨[x], []⟩) R s := by
  refine codeAny_of_tree ?_
  show wpAny _ A.in1 (callAny (.ref b) ⟨[x], []⟩) _ _ s
  simp only [callAny]
  refine wpAny_bind (wpAny_load hb ?_)
  dsimp only
  rw [if_pos (by decide)]
  refine wpAny_bind (check_app hD hc hd ?_)
  exact wpAny_pure ⟨Code.quiet_builtin _ (by decide +kernel), h⟩
theorem append_B {its : Array Value} {n : Nat} {news' : List (Addr × Obj)} {Q : Value → Shared → Prop} (F : Fr h₀ L s.heap m) (N : News h₀ L s.heap news) (hb : (b, boundO D) ∈ news) (U : Upd D (listOf its n) (listOf (its.push x) (n + 1)) news news')
    (h : ∀ h', Fr h₀ L h' m → News h₀ L h' news' → Q .none { s with heap := h' }) (hsz : its.size ≤ sizeLine) : wpAny (model prog w) A (call (.ref b) [x]) Q E s := by
  have hb' := (N _ hb).1
  obtain ⟨pre, post, rfl, rfl, a1, a2⟩ := U.split
  have z := N (D, listOf its n) (List.mem_append.mpr (.inr (.head _)))
  refine wpAny_call (app_bound hb' z.1 rfl ⟨_, _, rfl⟩ (codeAny_builtin entry_list_append ?_))
  show wpAny _ _ (updateSeq D (·.push x) >>= fun _ => ret .none) _ _ s
  refine wpAny_bind (wpAny_updateSeq z.1 rfl ?_)
  refine wpAny_pure ?_
  have hs := Heap.SameBut.update s.heap D (Obj.mapSeq (·.push x))
  refine h _ (F.change hs z.2.1 z.2.2) (news_set N a1 a2 hs ?_)
  rw [Heap.get?_update_self _ z.1 (by rw [Obj.mapSeq_push_plain]; rfl), Obj.mapSeq_push_plain]
end
end Mine
end
section
open PySem PySem.W PySem.Calls PyProof.Rows
example : True := by
  k_with "oleN" => apply Lx.l382 <;> assumption
  k_with "oleN" => apply Lx.l585
  k_with "oeqN" => apply Lx.l155 <;> assumption
  k_with "oleN" => apply Lx.l384 <;> assumption
  k_with "oleN" => apply Lx.l431 <;> assumption
  k_with "oleN" => apply Lx.l419 <;> assumption
  k_with "oleN" => apply Lx.l570
  trivial
namespace Mine
section
open PySem.Builtin PySem.Builtin.Re
noncomputable def driveP : Nat → Sre.M → Option Sre.M
  | 0, _ => none
  | n + 1, m => if (m.runFor reTurnSteps).outcome.isSome then some (m.runFor reTurnSteps) else driveP n (m.runFor reTurnSteps)
noncomputable def reCode : Array Nat := #[14, 14, 4, 1, 1, 9, 0, 64, 0, 1342177280, 0, 0, 0, 0, 0, 17, 0, 13, 11, 9, 0, 64, 0, 1342177280, 0, 0, 0, 0, 0, 17, 1, 1]
noncomputable def noHit (text : List Nat) : Bool := match driveP 300 (Sre.forSearch reCode text.toArray 1 0 text.toArray.size false) with
  | some m => (match m.outcome with | some .failed => true | _ => false)
  | none => false
theorem noHit0 : noHit [] = true ∧ noHit [33] = true := by decide +kernel
theorem noHitA : (List.range 10).all (fun p => noHit [48 + p] && noHit [33, 48 + p]) = true := by decide +kernel
theorem noHitB : (List.range 10).all (fun p => (List.range 10).all fun q => noHit [48 + p, 48 + q] && noHit [33, 48 + p, 48 + q] && noHit [48 + p, 45, 48 + q] && noHit [33, 48 + p, 45, 48 + q]) = true := by decide +kernel
variable {M : Model} {A : Around} {E : Value → Shared → Prop} {s : Shared}
theorem driveP_succ (n : Nat) (m : Sre.M) : driveP (n + 1) m = if (m.runFor reTurnSteps).outcome.isSome then some (m.runFor reTurnSteps) else driveP n (m.runFor reTurnSteps) := rfl
theorem reDrive_succ (n : Nat) (m : Sre.M) : reDrive (n + 1) m = (if (m.runFor reTurnSteps).outcome.isSome then pure (m.runFor reTurnSteps) else do rule "sre.turn"; reDrive n (m.runFor reTurnSteps)) := rfl
theorem wpDrive (n : Nat) : ∀ (F : Nat) (m m' : Sre.M) {Q : Sre.M → Shared → Prop}, driveP n m = some m' → n ≤ F → Q m' s → wpAny M A (reDrive F m) Q E s := by
  induction n with
  | zero => intro F m m' Q h; cases h
  | succ n ih =>
    intro F m m' Q h hF hQ
    obtain ⟨F, rfl⟩ : ∃ G, F = G + 1 := ⟨F - 1, by omega⟩
    rw [driveP_succ] at h
    rw [reDrive_succ]
    generalize m.runFor reTurnSteps = r at h ⊢
    by_cases hc : r.outcome.isSome = true
    · rw [if_pos hc] at h ⊢
      cases h
      exact wpAny_pure hQ
    · rw [if_neg hc] at h ⊢
      exact wpAny_bind (wpAny_rule (ih F r _ h (by omega) hQ))
theorem wpNone {m : Sre.M} {n : Nat} {Q : Option Sre.M → Shared → Prop} (hn : n ≤ 2 ^ 64) {m' : Sre.M} (h : driveP n m = some m') (ho : m'.outcome = some .failed) (hQ : Q none s) : wpAny M A (reRunToEnd m) Q E s := by
  unfold reRunToEnd
  refine wpAny_bind (wpDrive n _ _ _ h hn ?_)
  generalize List.range Sre.names.size = l
  refine wpAny_bind ?_
  induction l with
  | nil => rw [List.forIn_nil]; refine wpAny_pure ?_; rw [ho]; exact wpAny_pure hQ
  | cons a l ih =>
    rw [List.forIn_cons]
    refine wpAny_bind ?_
    by_cases hc : m'.seen.has a = true
    · rw [if_pos hc]; exact wpAny_bind (wpAny_rule (wpAny_pure ih))
    · rw [if_neg hc]; exact wpAny_pure ih
theorem noHit_spec {T : List Nat} (h : noHit T = true) : ∃ m', driveP 300 (Sre.forSearch reCode T.toArray 1 0 T.toArray.size false) = some m' ∧ m'.outcome = some .failed := by
  unfold noHit at h
  split at h
  · rename_i m e
    refine ⟨m, e, ?_⟩
    split at h
    · assumption
    · cases h
  · cases h
end
section
open PySem.Builtin PySem.Builtin.Re
variable {prog : Program} {w : World} {A : Around} {E : Value → Shared → Prop} {h : Heap} {g : Array GenState} {d : Drawn} {t : Nat} {os : OsState}
theorem type_call_fn : typeLookup (.type "function") "__call__" = pure (some (.builtin "function.__call__")) := by rw [typeLookup_type, builtinLookup_eq_fast]; kernel_rfl
theorem entry_sub : entryFor table "re.Pattern.sub" = some Builtin.«re.Pattern.sub» := entryFor_of_tree (by kernel_rfl)
theorem entry_loop : entryFor table "re.Pattern.sub.loop" = some Builtin.«re.Pattern.sub.loop» := entryFor_of_tree (by kernel_rfl)
theorem slot_sub : Slot "re.Pattern" "sub" "re.Pattern.sub" :=
  .of (owner := "re.Pattern") (n := "sub") (by rw [typeLookup_type, builtinLookup_eq_fast]; kernel_rfl) (by decide +kernel) (by decide +kernel) (by decide +kernel) (by first | exact .inl (by decide +kernel) | exact .inr (by decide +kernel)) (by rw [isSubtype_type]; kernel_rfl)
theorem args_sub (a b c : Value) : argsOk "re.Pattern.sub" ⟨[a, b, c], []⟩ := by unfold argsOk; kernel_rfl
theorem type_sub : typeOf (.builtin "re.Pattern.sub") = pure (.type "method_descriptor") := by show builtinType _ = _; rw [builtinType_eq_fast]; kernel_rfl
theorem sub_ba_str : isSubtype (.type "str") (.type "bytearray") = pure false := by rw [isSubtype_type]; kernel_rfl
noncomputable abbrev patO (a b : Tok) : Obj := { cls := .type "re.Pattern", data := .fields #[.str (ofString "([&~|])") a, .int 32 b, .int 1 0, .none, .none, .ref 42, .int 0 0] }
theorem sub_tree {f : Addr} {T : List Nat} {u a b : Tok} {of o42 : Obj} {Q : PySem.Fin → Shared → Prop} (h43 : h.get? 43 = some (patO a b)) (h42 : h.get? 42 = some o42) (d42 : ∃ xs n, o42.data = .seq xs n ∧ (xs.map reRawOf).map (·.toNat) = reCode) (hf : h.get? f = some of) (cf : of.cls = .type "function") (hno : noHit T = true)
    (hQ : ∀ c', c' = Code.builtin "re.Pattern.sub.loop" ⟨[.ref 43, .str ⟨T.toArray⟩ u, .ref f, rawInt 1, rawInt 0, rawInt 0, rawInt 0, rawInt 0, .bool false, .ref h.objs.size, .bool false], []⟩ → Q (.again c') ⟨h.push { cls := .type "list", data := .seq #[] }, g, d, t, os⟩) :
    wpAny (model prog w) A (Builtin.«re.Pattern.sub» ⟨[.ref 43, .ref f, .str ⟨T.toArray⟩ u], []⟩) Q E ⟨h, g, d, t, os⟩ := by
  have hT : (⟨h, g, d, t, os⟩ : Shared).TypeIs (.ref f) "function" := ⟨_, hf, cf⟩
  have f1 := type_call_fn
  have f2 := sub_ba_str
  unfold Builtin.«re.Pattern.sub» reSubstitute
  refine wpAny_bind (wpAny_of_eq (a := [some (.ref f), some (.str ⟨T.toArray⟩ u), none]) (by kernel_rfl) ?_)
  dsimp only
  repeat (any_goals (first | assumption | wp_step))
  obtain ⟨xs, n, hd, hx⟩ := d42
  rw [hd]
  dsimp only
  repeat (any_goals (first | assumption | exact hQ _ rfl | wp_step))
theorem sub_loop {L f : Addr} {T : List Nat} {u a b : Tok} {o42 : Obj} {R : Result → Shared → Prop} (h43 : h.get? 43 = some (patO a b)) (h42 : h.get? 42 = some o42) (d42 : ∃ xs n, o42.data = .seq xs n ∧ (xs.map reRawOf).map (·.toNat) = reCode) (hL : h.get? L = some { cls := .type "list", data := .seq #[] }) (hno : noHit T = true) (hz : (⟨T.toArray⟩ : Str).length ≤ 1000)
    (hQ : ∀ h' t' k, (∀ b o, b ≠ L → h.get? b = some o → h'.get? b = some o) → R (.ok (.ret (.str ⟨T.toArray⟩ t'))) ⟨h', g, d, k, os⟩) :
    codeAny (model prog w) A (.builtin "re.Pattern.sub.loop" ⟨[.ref 43, .str ⟨T.toArray⟩ u, .ref f, rawInt 1, rawInt 0, rawInt 0, rawInt 0, rawInt 0, .bool false, .ref L, .bool false], []⟩) R ⟨h, g, d, t, os⟩ := by
  refine codeAny_builtin entry_loop ?_
  obtain ⟨m', hm', ho'⟩ := noHit_spec hno
  unfold Builtin.«re.Pattern.sub.loop»
  dsimp only [rawInt]
  unfold reWholeTarget reNextFound
  repeat (any_goals (first | assumption | wp_step))
  obtain ⟨xs, n, hd, hx⟩ := d42
  rw [hd]
  dsimp only
  refine wpAny_pure (wpAny_pure (wpAny_pure ?_))
  rw [if_neg (by decide)]
  refine wpAny_bind ?_
  rw [if_neg (by decide)]
  have e1 : (Array.map (fun x => x.toNat) (Array.map reRawOf ((some xs).getD #[]))) = reCode := hx
  rw [e1]
  refine wpNone (n := 300) (by decide) hm' ho' ?_
  dsimp only
  have hsl : ∀ (X : Array Nat) (b e : Nat), reSlice X 0 b e = mkStr ⟨X.extract b e⟩ := fun X b e => rfl
  simp only [hsl]
  cases T with
  | nil =>
    rw [if_neg (by decide)]
    refine wpAny_bind (wpAny_mkStr ?_ (by rw [sizeLine_eq]; decide))
    refine wpAny_bind (wpAny_bind (wpAny_load hL (wpAny_pure ?_)))
    rw [if_pos (by decide)]
    exact wpAny_bind (wpAny_pure (wpAny_pure (hQ h _ _ fun _ _ _ e => e)))
  | cons c T =>
    rw [if_pos (by simp)]
    have ex : (c :: T).toArray.extract (Int.toNat 0) (c :: T).toArray.size = (c :: T).toArray := by simp
    rw [ex]
    refine wpAny_bind (wpAny_mkStr ?_ (by rw [sizeLine_eq]; omega))
    refine wpAny_bind (wpAny_updateSeq hL rfl ?_)
    refine wpAny_bind (wpAny_mkStr ?_ (by rw [sizeLine_eq]; simp [Str.length]))
    have hL2 : (h.update L (Obj.mapSeq (·.push (.str ⟨(c :: T).toArray⟩ t)))).get? L = some { cls := .type "list", data := .seq #[.str ⟨(c :: T).toArray⟩ t] 1 } := by
      rw [Heap.get?_update_self _ hL (by rw [Obj.mapSeq_push_plain]; rfl), Obj.mapSeq_push_plain]; rfl
    refine wpAny_bind (wpAny_bind (wpAny_load hL2 (wpAny_pure ?_)))
    rw [if_neg (by simp)]
    refine wpAny_bind ?_
    refine SC.join (D := L) (l := [(⟨(c :: T).toArray⟩, t)]) ⟨_, hL2, rfl, _, rfl⟩ rfl ?_ fun t' k => ?_
    · unfold JoinOk Builtin.Str.tooLong
      rw [sizeLine_eq]
      simp [Str.length] at hz ⊢
      omega
    · have ej : ∀ S X : Str, Txt.join S [X] = X := fun S X => by first | rfl | simp [Txt.join]
      simp only [List.map_cons, List.map_nil, ej]
      rw [if_neg Bool.false_ne_true]
      exact wpAny_pure (hQ _ _ _ fun b o hb e => (Heap.get?_update_other _ _ (Ne.symm hb)).trans e)
theorem sub_none {f : Addr} {T : List Nat} {u : Tok} {of : Obj} {s : Shared} {h₀ : Heap} {L : Addr} {m : Str → Option Value} {news : List (Addr × Obj)} {Q : Value → Shared → Prop} (X : (hd.heap_1 w.params).In h₀) (F : Fr h₀ L s.heap m) (N : News h₀ L s.heap news) (hf : (f, of) ∈ news) (cf : of.cls = .type "function") (hno : noHit T = true) (hz : T.length ≤ 100)
    (hQ : ∀ h' t' k, Fr h₀ L h' m → News h₀ L h' news → Q (.str ⟨T.toArray⟩ t') { s with heap := h', toks := k }) :
    wpAny (model prog w) A (call (.builtin "re.Pattern.sub") [.ref 43, .ref f, .str ⟨T.toArray⟩ u]) Q E s := by
  have Xs := X.keeps F.keep
  have e43 := Xs 43 _ (show (hd.heap_1 w.params).lookup 43 = some _ from rfl)
  have e42 := Xs 42 _ (show (hd.heap_1 w.params).lookup 42 = some _ from rfl)
  obtain ⟨hp, g, d, t, os⟩ := s
  have hT : (⟨hp, g, d, t, os⟩ : Shared).TypeIs (.ref 43) "re.Pattern" := ⟨_, e43, rfl⟩
  refine wpAny_call (codeAny_call_builtin slot_sub.plain entry_sub (slot_sub.check _ _ _ _ _ _ _ _ hT (args_sub _ _ _) ?_))
  refine sub_tree e43 e42 ⟨_, _, rfl, by decide +kernel⟩ (N _ hf).1 cf hno fun c' hc' => ?_
  subst hc'
  refine ⟨Code.quiet_builtin _ (by decide +kernel), ?_⟩
  have k0 : ∀ b o, hp.get? b = some o → (hp.push { cls := .type "list", data := .seq #[] }).get? b = some o := fun b o e => Heap.get?_push_of_some _ e
  refine sub_loop (k0 _ _ e43) (k0 _ _ e42) ⟨_, _, rfl, by decide +kernel⟩ (Heap.get?_push_size _ rfl) hno (by simp [Str.length]; omega) fun h' t' k hk => ?_
  have k1 : hp.StaysIn h' := fun b o e => hk b o (Nat.ne_of_lt (Heap.lt_size e)) (k0 b o e)
  exact hQ h' t' k (frStays F k1) (newsStays N k1)
end
end Mine
end
set_option maxHeartbeats 40000000
namespace Mine
theorem GF.gF:True:=trivial
theorem GT.gT:True:=trivial
theorem GF.t{α:Type}(_:α):True:=trivial
example : True := by
  k_with "gF" => (fail_if_success (fail_if_success (have := gF)))
  k_with "gT" => (fail_if_success (fail_if_success (have := gT)))
  trivial
local macro_rules | `(tactic| walk_at $s:str) => `(tactic| k_extra $s)
local macro_rules | `(tactic| k_ne) => `(tactic| k_extra "k_ne")
local macro_rules | `(tactic| size_fits) => `(tactic| k_extra "size_fits")
local macro_rules | `(tactic| ktu_obj) => `(tactic| k_extra "ktu_obj")
local macro_rules
  | `(tactic| intro $xs:term*) => do
    if xs.size == 0 then Lean.Macro.throwUnsupported
    let x : Array Lean.Syntax := xs
    let z := x.size
    let j := (x.findIdx? fun x => !x.isIdent || ("zz F' N' hO' hz' hp' hk' hm' hit' hget' hge' l1 hlt hsz kz1 kz2".splitOn " ").any (x.getId.eraseMacroScopes.toString.endsWith ·)).getD z
    let g := fun (k : String) (b : Array Lean.Syntax) => (⟨Lean.mkNode k.toName #[Lean.mkAtom "", Lean.mkNullNode b]⟩ : Lean.TSyntax `tactic)
    let m := fun (k : String) => (⟨Lean.mkNode `PySem.W.tacticK_extra_ #[Lean.mkAtom "", Lean.Syntax.mkStrLit k]⟩ : Lean.TSyntax `tactic)
    let r := "Lean.Parser.Tactic.intro"
    let u := r ++ "s"
    if z == 1 && j == 0 && x[0]!.isIdent then return g u x
    let n := if j ≥ 8 then 8 else if j ≥ 4 then 4 else if j ≥ 2 then 2 else 1
    let s := if n == 1 && z > 1 then "" else s!"{n}"
    let h := if n == 1 then 1 else n / 2
    let e := if z == n then m "sk" else g r (x.extract n z)
    let c := if z == 1 then g u x else g r (x.extract 0 h)
    let d := if z == 1 then m "sk" else g r (x.extract h z)
    let p := m ("p" ++ s)
    let q := m ("q" ++ s)
    let a := g u (x.extract 0 n)
    `(tactic| first | ($p; $a; $q; $e) | ($c; $d))
example : True := by
  k_with "sk" => skip
  k_with "p1" => ((fail_if_success (fail_if_success (intros zza0; have := GF.t zza0))); with_reducible refine pickI (h := (?_ : AllB _) (pick _ _)))
  k_with "p2" => ((fail_if_success (fail_if_success (intros zza0 zza1; have := GF.t zza0; have := GF.t zza1))); with_reducible refine pickI2 (h := (?_ : AllB2 _) (pick2 _ _ _).1 (pick2 _ _ _).2))
  k_with "p4" => ((fail_if_success (fail_if_success (intros zza0 zza1 zza2 zza3; have := GF.t zza0; have := GF.t zza1; have := GF.t zza2; have := GF.t zza3))); with_reducible refine pickI4 (h := (?_ : AllB4 _) (pick4 _ _ _ _ _).1 (pick4 _ _ _ _ _).2.1 (pick4 _ _ _ _ _).2.2.1 (pick4 _ _ _ _ _).2.2.2))
  k_with "p8" => ((fail_if_success (fail_if_success (intros zza0 zza1 zza2 zza3 zza4 zza5 zza6 zza7; have := GF.t zza0; have := GF.t zza1; have := GF.t zza2; have := GF.t zza3; have := GF.t zza4; have := GF.t zza5; have := GF.t zza6; have := GF.t zza7))); with_reducible refine pickI8 (h := (?_ : AllB8 _) (pick8 _ _ _ _ _ _ _ _ _).1 (pick8 _ _ _ _ _ _ _ _ _).2.1 (pick8 _ _ _ _ _ _ _ _ _).2.2.1 (pick8 _ _ _ _ _ _ _ _ _).2.2.2.1 (pick8 _ _ _ _ _ _ _ _ _).2.2.2.2.1 (pick8 _ _ _ _ _ _ _ _ _).2.2.2.2.2.1 (pick8 _ _ _ _ _ _ _ _ _).2.2.2.2.2.2.1 (pick8 _ _ _ _ _ _ _ _ _).2.2.2.2.2.2.2))
  k_with "e" => ((first | refine exE zz ?_ | refine aE zz ?_); clear zz)
  k_with "q1" => (with_reducible refine bodyMk ?_)
  k_with "q2" => (with_reducible refine bodyMk2 ?_)
  k_with "q4" => (with_reducible refine bodyMk4 ?_)
  k_with "q8" => (with_reducible refine bodyMk8 ?_)
  k_with "eval Name" => (k_here; k_dflt (first | (refine' nameX_L ?zF ?zv ?_ ?za ?zb; (case zF => k_asm); (case za => rfl); (case zb => rfl); (case zv => rfl); k_whole) | (refine' nameX_C ?zN ?zc ?zm ?zd ?_ ?za ?zb; (case za => rfl); (case zb => rfl); (case zN => k_asm); (case zc => rfl); (case zm => k_mem); (case zd => k_asm); k_whole) | (refine' nameX_K ?zF ?zX ?zT ?ze ?_ ?za ?zb; (case zF => k_asm); (case zX => k_asm); (case zT => k_asm); (case za => rfl); (case zb => rfl); (case ze => k_is); k_whole) | (refine' nameX_B ?zF ?zX ?zT ?ze ?zv ?zn ?_ ?za ?zb; (case zF => k_asm); (case zX => k_asm); (case zT => k_asm); (case za => rfl); (case zb => rfl); (case ze => k_is); (case zv => boot_fast); (case zn => decide); k_whole)))
  k_with "spliced" => (k_here; (with_reducible refine' args_cons (he := ?zh1) ?_); (case zh1 => k_dflt (exact rfl)))
  k_with "callWith" => (k_here; (with_reducible refine' PyProof.Rows.callWith_method1 (he := ?zh1) (hplain := ?zh2) ?_); (case zh1 => k_dflt (exact rfl)); (case zh2 => k_dflt (exact rfl)))
  k_with "callWith" => (k_here; (with_reducible refine' PyProof.Rows.callWith_builtin1 (he := ?zh1) (hplain := ?zh2) ?_); (case zh1 => k_dflt (exact rfl)); (case zh2 => k_dflt (exact rfl)))
  k_with "callWith" => (k_here; (with_reducible refine' PyProof.Rows.callWith_type1 (he := ?zh1) (hplain := ?zh2) ?_); (case zh1 => k_dflt (exact rfl)); (case zh2 => k_dflt (exact rfl)))
  k_with "And" => ((with_reducible show Frag.In _ _ ∧ _); (refine' And.intro ?zk1 ?_); (case zk1 => k_in); (try dsimp only [List.nil_append, List.cons_append]))
  k_with "newList" => (k_here; k_dflt (refine' newList_K (hsz := ?zh1) ?zk1 ?zk2 ?_; (case zk1 => k_asm); (case zk2 => k_asm); (case zh1 => exact Nat.le_of_ble_eq_true rfl); k_whole); intro zql' zqh' zqF' zqN' zql1; (try k_lt zql1); (try k_sweep))
  k_with "callWith ref" => (k_here; k_dflt (refine' callWith_K ?zk1 ?zk2 ?_; (case zk1 => k_asm); (case zk2 => k_is); k_whole))
  k_with "exec Assign" => ((with_reducible show wpAny _ _ (exec (Stmt.Assign [Expr.Name _ _] _ _) _) _ _ _); k_dflt (refine wpAny_Assign_Name ?_))
  k_with "eval Call" => (k_dflt (refine Call_ ?_))
  k_with "eval Call Attribute" => (k_dflt (refine MethodCall_ ?_))
  k_with "isTrue" => (k_dflt (refine isTrue_plain ?_))
  k_with "isTrue Compare" => (refine wpAny_isTrue_Compare1 ?_)
  k_with "execs nil" => (refine wpAny_execs_nil ?_)
  trivial

example : True := by
  k_with "m_fill" => ((
  (case k6 => k_is); (case k7 => k_is); (case k8 => (show _ < 1000; dsimp only; (first | exact room1 (by with_reducible assumption) (by with_unfolding_all rfl) | exact room0 (by with_reducible assumption) (by with_unfolding_all rfl) | exact roomL (by with_reducible assumption) (by with_unfolding_all rfl) | omega))); (case k9 => first | exact BindsTo.of_eq rfl | ((rename (Frag.In _ _) => zqjag1X9); (rename Fr _ _ _ _ => zqjag1F9); exact binds_K (zqjag1X9.keeps zqjag1F9.keep) rfl (by k_is) rfl rfl rfl)); (case c5 => decide); (case kB => exact locs rfl); (case c2 => exact rfl); (case c3 => exact rfl); (case c4 => exact rfl); k_whole))
  k_with "m_fillC" => ((
  (case k6 => k_is); (case k7 => k_is); (case k8 => (show _ < 1000; dsimp only; (first | exact room1 (by with_reducible assumption) (by with_unfolding_all rfl) | exact room0 (by with_reducible assumption) (by with_unfolding_all rfl) | exact roomL (by with_reducible assumption) (by with_unfolding_all rfl) | omega))); (case k9 => exact BindsTo.of_eq rfl); (case kB => exact rfl); (case kD => decide +kernel); (case c2 => exact rfl); (case c3 => exact rfl); (case c4 => exact rfl); k_whole))
  k_with "m_fillR" => ((
  (case k6 => k_is); (case k7 => k_is); (case k8 => (show _ < 1000; dsimp only; (first | exact room1 (by with_reducible assumption) (by with_unfolding_all rfl) | exact room0 (by with_reducible assumption) (by with_unfolding_all rfl) | exact roomL (by with_reducible assumption) (by with_unfolding_all rfl) | omega))); (case k9 => exact rfl); (case kf => exact rfl); (case c5 => decide); (case kB => exact fun _ => locs rfl); (case c2 => exact rfl); (case c3 => exact rfl); (case c4 => exact rfl); k_whole))
  k_with "m_new" => ((
  (rename PNew _ _ _ _ => zqjag4hp'); (refine PNew.outV zqjag4hp' ?_); clear zqjag4hp'; intro zqjag4a' zqjag4o' zqjag4hge' zqjag4hget' zqjag4hO';
  (rename Heap.StaysIn _ _ => zqjag4hk'); (rename Fr _ _ _ _ => zqjag4F9); (rename News _ _ _ _ => zqjag4N9); (have zqjag4F' := frStays zqjag4F9 zqjag4hk'); (have zqjag4N' := newsNew zqjag4F9 zqjag4N9 zqjag4hk' zqjag4hge' zqjag4hget'); (have zqjag4l' := newsNe zqjag4hge' zqjag4N9); clear zqjag4F9 zqjag4N9 zqjag4hge' zqjag4hget' zqjag4hk';
  (repeat (refine Exists.elim zqjag4hO' ?_; clear zqjag4hO'; intro zqjag4t' zqjag4hO')); (repeat (refine And.elim ?_ zqjag4hO'; clear zqjag4hO'; intro zqjag4hz' zqjag4hO')); subst zqjag4hO'; (replace zqjag4l' := zqjag4l'; (replace zqjag4l' := zqjag4l'; simp only [AllNe, and_true] at zqjag4l')); (try dsimp only)))
  k_with "m_old" => ((
  (rename Heap.StaysIn _ _ => zqjag5hk'); (rename Fr _ _ _ _ => zqjag5F9); (rename News _ _ _ _ => zqjag5N9); (have zqjag5F' := frStays zqjag5F9 zqjag5hk'); (have zqjag5N' := newsStays zqjag5N9 zqjag5hk'); clear zqjag5F9 zqjag5N9))
  k_with "m_used" => ((
  (case kwB => k_asm); (case kwF => k_asm); (case kwX => k_asm); (case kwT => k_asm); (case kwc1 => exact rfl); (case kwc2 => exact rfl); (case kwc3 => first | exact rfl | assumption); (case kwc4 => first | exact rfl | assumption); (case kwd => (try simp only [depth_under_make, depth_under_kw, depth_in1, depth_deeper, depth_caller]); (try dsimp only); (first | exact room1 (by with_reducible assumption) (by with_unfolding_all rfl) | exact room0 (by with_reducible assumption) (by with_unfolding_all rfl) | exact roomL (by with_reducible assumption) (by with_unfolding_all rfl) | omega)); (case kwu => (try simp only [units_in1, units_deeper, Around.mark_units, units_caller]); (try dsimp only); (first | exact room1 (by with_reducible assumption) (by with_unfolding_all rfl) | exact room0 (by with_reducible assumption) (by with_unfolding_all rfl) | exact roomL (by with_reducible assumption) (by with_unfolding_all rfl) | omega));
  (try (case kwp => exact True.intro));
  intro zqjag6v' zqjag6h' zqjag6tk' zqjag6hk' zqjag6hz' zqjag6hp'; clear zqjag6hz'; (first | walk_at "m_new" | (walk_at "m_old"; (first | (refine PStr.out zqjag6hp' ?_; clear zqjag6hp'; intro zqjag6t') | (refine PInt.out zqjag6hp' ?_; clear zqjag6hp'; intro zqjag6t') | (refine PBool.out zqjag6hp' ?_; clear zqjag6hp')); (try dsimp only)))))
  k_with "ItemsRest" => (first
  | ((with_unfolding_all refine ItemsRest.val ?_); intro zqjag7h' zqjag7tk' zqjag7F'; ktu_objs)
  | ((with_unfolding_all refine ItemsRest.zero ?_); intro zqjag7h' zqjag7tk' zqjag7F' zqjag7N'))
  k_with "ktu_obj" => (((refine AllObj.cons ?_); intro zqjag8o' zqjag8hc'; (try (replace zqjag8hc' := zqjag8hc'; dsimp only at zqjag8hc'))))
  k_with "call builtin:issubclass" => ((k_here; (with_reducible show wpAny _ _ (call (Value.builtin "issubclass") [Value.type "str", Value.ref _]) _ _ _); k_dflt (refine' issub_tup ?kwk1 ?_; (case kwk1 => exact News.get (by k_asm) (by k_mem)))))
  k_with "call builtin:str.split" => ((k_here; (with_reducible show wpAny _ _ (call (Value.builtin "str.split") [Value.str _ _, Value.str _ _]) _ _ _); (refine KSpl.split1 (by k_asm) (by k_asm) (by decide) ?_ (by size_fits)); intro zqjagaD' zqjagal' zqjagah' zqjagak' zqkse' zqjagaa' zqjagaF' zqjagaN' zqjagal1; (try k_lt zqjagal1); ((replace zqkse' := zqkse'; rw [Fct.out (show Fct (Txt.split _ _ = _) by with_reducible assumption)] at zqkse')); clear zqjagaa'; (k_extra "kspl"); ((replace zqjagaN' := zqjagaN'; simp only [strValues, List.map_cons, List.map_nil] at zqjagaN'))))
  k_with "ite" => ((k_here; first | refine ite_pos (Fct.out (by with_reducible assumption)) ?_ | refine ite_neg (ne_true_of (Fct.out (by with_reducible assumption))) ?_ | refine ite_neg (Fct.out (by with_reducible assumption)) ?_ ))
  k_with "size_fits" => (((with_reducible show (_ : Nat) ≤ PySem.sizeLine); rw [PySem.sizeLine_eq]; (try simp only [PySem.Str.length_append, len_slash, len_empty, len_dot, len_dots]); omega))
  k_with "subscriptTail Name Constant str int" => ((k_here; (with_reducible show wpAny _ _ (subscriptTail _ _ (Value.str _ _) (Value.int _ _)) _ _ _); (with_reducible refine' itemE (hs := ?kwhs) (ht := ?kwht) ?kwe ?kwr ?kwa ?kwb ?_); (case kwhs => with_unfolding_all exact rfl); (case kwht => with_unfolding_all exact fun _ => rfl); k_dflt ((case kwe => with_reducible assumption); (case kwr => first | decide | with_reducible assumption); (case kwa => first | exact of_decide_eq_true rfl | omega); (case kwb => first | exact of_decide_eq_true rfl | omega)); intro _ _))
  k_with "subscriptTail Name Name str int" => ((k_here; (with_reducible show wpAny _ _ (subscriptTail _ _ (Value.str _ _) (Value.int _ _)) _ _ _); (with_reducible refine' itemE (hs := ?kwhs) (ht := ?kwht) ?kwe ?kwr ?kwa ?kwb ?_); (case kwhs => with_unfolding_all exact rfl); (case kwht => with_unfolding_all exact fun _ => rfl); k_dflt ((case kwe => with_reducible assumption); (case kwr => first | decide | with_reducible assumption); (case kwa => first | exact of_decide_eq_true rfl | omega); (case kwb => first | exact of_decide_eq_true rfl | omega)); intro _ _))
  k_with "subscriptTail Name UnaryOp str int" => ((k_here; (with_reducible show wpAny _ _ (subscriptTail _ _ (Value.str _ _) (Value.int _ _)) _ _ _); (with_reducible refine' itemE (hs := ?kwhs) (ht := ?kwht) ?kwe ?kwr ?kwa ?kwb ?_); (case kwhs => with_unfolding_all exact rfl); (case kwht => with_unfolding_all exact fun _ => rfl); k_dflt ((case kwe => with_reducible assumption); (case kwr => first | decide | with_reducible assumption); (case kwa => first | exact of_decide_eq_true rfl | omega); (case kwb => first | exact of_decide_eq_true rfl | omega)); intro _ _))
  k_with "subscriptTail Name Slice str ref" => ((k_here; (with_reducible show wpAny _ _ (subscriptTail _ (Expr.Slice (some _) none none _) (Value.str _ _) (Value.ref _)) _ _ _); k_dflt (refine' sliceE_sn (hsz := ?kwhsz) (s := ⟨_, _, _, _, _⟩) ?kwe ?kwF ?kwN ?_; (case kwe => with_reducible assumption); (case kwF => k_asm); (case kwN => k_asm); (case kwhsz => size_fits)); intro _ _ _ _ _; k_sweep))
  k_with "subscriptTail Name Slice str ref" => ((k_here; (with_reducible show wpAny _ _ (subscriptTail _ (Expr.Slice none (some _) none _) (Value.str _ _) (Value.ref _)) _ _ _); k_dflt (refine' sliceE_ns (hsz := ?kwhsz) (s := ⟨_, _, _, _, _⟩) ?kwe ?kwF ?kwN ?_; (case kwe => with_reducible assumption); (case kwF => k_asm); (case kwN => k_asm); (case kwhsz => size_fits)); intro _ _ _ _ _; k_sweep))
  k_with "subscriptTail Name Slice str ref" => ((k_here; (with_reducible show wpAny _ _ (subscriptTail _ (Expr.Slice (some _) (some _) none _) (Value.str _ _) (Value.ref _)) _ _ _); k_dflt (refine' sliceE_ss (hsz := ?kwhsz) (s := ⟨_, _, _, _, _⟩) ?kwe ?kwF ?kwN ?_; (case kwe => with_reducible assumption); (case kwF => k_asm); (case kwN => k_asm); (case kwhsz => size_fits)); intro _ _ _ _ _; k_sweep))
  k_with "execs cons" => ((k_here; (refine genTok ?_); intro zqjagjtk'; (try dsimp only); (with_reducible refine wpAny_execs_cons ?_); (try dsimp only)))
  k_with "k_canon" => ((refine setM_of ?_; (repeat (first | exact List.forall_mem_nil _ | refine List.forall_mem_cons.mpr ⟨by with_unfolding_all rfl, ?_⟩))))
  k_with "k_bfin" => (first | rfl | ((repeat ((rename Fct _ => zqjaglhF9); (try rw [zqjaglhF9.out]); clear zqjaglhF9)); first | rfl | done | (simp; done) | trace_state))
  k_with "k_allne" => (((dsimp only [AllNe]); (repeat' (first | exact True.intro | refine And.intro ?_ ?_ | ((show @Ne Nat _ _); first | (with_reducible assumption) | exact Ne.symm (by with_reducible assumption) | exact Nat.ne_of_lt (by with_reducible assumption) | exact Nat.ne_of_gt (by with_reducible assumption) | decide | omega)))))
  k_with "k_flat" => ((repeat ((rename And _ _ => zqjagnz9); (refine And.elim ?_ zqjagnz9; clear zqjagnz9; intro _ _))))
  k_with "k_sift" => (first | exact Sift.nil | (refine' Sift.keep ?kwka ?kwkb; (case kwka => walk_at "k_allne"); (case kwkb => walk_at "k_sift")) | (refine' Sift.drop ?kwkb; (case kwkb => walk_at "k_sift")))
  k_with "m_usedM" => (((rename (MvOut _ _ _) => zqjagphm9); (rename Heap.StaysIn _ _ => zqjagphk9); (rename Fr _ _ _ _ => zqjagpF9); (rename News _ _ _ _ => zqjagpN9); (first | ((rename PNew _ _ _ _ => zqjagphp9); (refine PNew.outV zqjagphp9 ?_); clear zqjagphp9; intro zqjagpa' zqjagpo' zqjagphge' zqjagphget' zqjagphO'; (replace zqjagphm9 := MvOut.cons zqjagphge' zqjagphget' zqjagphm9); clear zqjagphge' zqjagphget'; (repeat (refine Exists.elim zqjagphO' ?_; clear zqjagphO'; intro zqjagpt' zqjagphO')); (repeat (refine And.elim ?_ zqjagphO'; clear zqjagphO'; intro zqjagphz' zqjagphO')); subst zqjagphO') | ((rename PInt _ _ _ _ => zqjagphp9); (refine PInt.out zqjagphp9 ?_); clear zqjagphp9; intro zqjagpt') | ((rename PStr _ _ _ _ => zqjagphp9); (refine PStr.out zqjagphp9 ?_); clear zqjagphp9; intro zqjagpt') | skip); (try walk_at "k_flat"); (refine' afterM zqjagpF9 zqjagpN9 ?kwhs ?kwS zqjagphk9 zqjagphm9 ?_; (case kwhs => lcg_sub); (case kwS => walk_at "k_sift")); clear zqjagpF9 zqjagpN9 zqjagphm9 zqjagphk9; intro zqjagpF' zqjagpN' zqjagpl'; ((replace zqjagpN' := zqjagpN'; replace zqjagpl' := zqjagpl'; simp only [NeAll, AllNe, and_true, List.cons_append, List.nil_append] at zqjagpN' zqjagpl')); (try dsimp only)))
  k_with "call builtin:int.bit_length" => ((k_here; (with_reducible refine call_int_bit_length ?_); rw [bits1000]))
  k_with "ListRest" => ((with_unfolding_all first | (refine ListRest.succ ?_; intro zqjagrit' zqjagrh' zqjagrtk' zqjagrhit' zqjagrF' zqjagrN') | (refine ListRest.zero ?_; intro zqjagrh' zqjagrtk' zqjagrF' zqjagrN')))
  k_with "kspl" => (first | ((have ksplN := KSpl.nil_of zqkse'); subst ksplN) | (refine exE (KSpl.cons_of zqkse') ?_; clear zqkse'; intro kx1 kz1; refine exE kz1 ?_; clear kz1; intro kx2 kz2; refine And.elim ?_ kz2; clear kz2; intro ksplR zqkse'; subst ksplR; k_extra "kspl"))
  k_with "RevRest" => ((with_unfolding_all first | (refine RevRest.succ ?_; intro zqjagsit' zqjagsh' zqjagstk' zqjagshit' zqjagsF' zqjagsN') | (refine RevRest.zero ?_; intro zqjagsh' zqjagstk' zqjagsF' zqjagsN')))
  k_with "k_ne" => ((refine neN ?_; (try dsimp only); (first | (with_reducible first | assumption | exact nS ‹_› | exact nL (aL ‹_›) | exact nL (aL (aR ‹_›)) | exact nL (aL (aR (aR ‹_›))) | exact nL (aL (aR (aR (aR ‹_›)))) | exact nL (aL (aR (aR (aR (aR ‹_›))))) | exact nL (aR (aR ‹_›)) | exact nL (aR (aR (aR ‹_›))) | exact nL (aR (aR (aR (aR ‹_›)))) | exact nL (aR (aR (aR (aR (aR ‹_›))))) | exact nG (aL ‹_›) | exact nG (aL (aR ‹_›)) | exact nG (aL (aR (aR ‹_›))) | exact nS (aL ‹_›) | exact nS (aL (aR ‹_›)) | exact nS (aL (aR (aR ‹_›))) | exact nS (aL (aR (aR (aR ‹_›)))) | exact Fct.out ‹_› | exact (aR (aR (aL ‹_›))) | exact (aL (aL (aR ‹_›))) | exact (aL (aR (aL (aR ‹_›)))) | exact (aR (aL (aR ‹_›))) | exact (aR (aR (aL (aR ‹_›)))) | exact (aL (aL (aR (aR ‹_›)))) | exact (aL (aR (aL (aR (aR ‹_›))))) | exact (aR (aR (aL (aR (aR ‹_›))))) | exact (aL (aL ‹_›)) | exact (aL (aR (aL ‹_›))) | exact (aL (aR (aR (aR ‹_›)))) | exact (aR (aR (aR (aR (aR ‹_›))))) | exact (aL (aR (aR (aR (aR ‹_›))))) | exact nS (Fct.out ‹_›) | exact nG ‹_› | exact nL ‹_› | exact nG (aR ‹_›) | exact nG (aR (aR ‹_›)) | exact nG (aR (aR (aR ‹_›))) | exact nG (aR (aR (aR (aR ‹_›)))) | exact nG (aR (aR (aR (aR (aR ‹_›))))) | exact nG (aR (aR (aR (aR (aR (aR ‹_›)))))) | exact nG (aR (aR (aR (aR (aR (aR (aR ‹_›))))))) | exact nG (aR (aR (aR (aR (aR (aR (aR (aR ‹_›)))))))) | exact nG (aL (aR (aR (aR ‹_›)))) | exact nG (aL (aR (aR (aR (aR ‹_›))))) | exact nG (aL (aR (aR (aR (aR (aR ‹_›)))))) | exact nG (aL (aR (aR (aR (aR (aR (aR ‹_›))))))) | exact nG (aL (aR (aR (aR (aR (aR (aR (aR ‹_›)))))))) | exact nG (aL (aR (aR (aR (aR (aR (aR (aR (aR ‹_›))))))))) | exact nL (aR ‹_›) | exact nL (aR (aR (aR (aR (aR (aR ‹_›)))))) | exact nL (aR (aR (aR (aR (aR (aR (aR ‹_›))))))) | exact nL (aR (aR (aR (aR (aR (aR (aR (aR ‹_›)))))))) | exact nL (aL (aR (aR (aR (aR (aR ‹_›)))))) | exact nL (aL (aR (aR (aR (aR (aR (aR ‹_›))))))) | exact nL (aL (aR (aR (aR (aR (aR (aR (aR ‹_›)))))))) | exact nL (aL (aR (aR (aR (aR (aR (aR (aR (aR ‹_›))))))))) | exact nS (aR ‹_›) | exact nS (aR (aR ‹_›)) | exact nS (aR (aR (aR ‹_›))) | exact nS (aR (aR (aR (aR ‹_›)))) | exact nS (aR (aR (aR (aR (aR ‹_›))))) | exact nS (aR (aR (aR (aR (aR (aR ‹_›)))))) | exact nS (aR (aR (aR (aR (aR (aR (aR ‹_›))))))) | exact nS (aR (aR (aR (aR (aR (aR (aR (aR ‹_›)))))))) | exact nS (aL (aR (aR (aR (aR ‹_›))))) | exact nS (aL (aR (aR (aR (aR (aR ‹_›)))))) | exact nS (aL (aR (aR (aR (aR (aR (aR ‹_›))))))) | exact nS (aL (aR (aR (aR (aR (aR (aR (aR ‹_›)))))))) | exact nS (aL (aR (aR (aR (aR (aR (aR (aR (aR ‹_›))))))))) | exact (aR ‹_›) | exact (aR (aR ‹_›)) | exact (aR (aR (aR ‹_›))) | exact (aR (aR (aR (aR ‹_›)))) | exact (aR (aR (aR (aR (aR (aR ‹_›)))))) | exact (aR (aR (aR (aR (aR (aR (aR ‹_›))))))) | exact (aR (aR (aR (aR (aR (aR (aR (aR ‹_›)))))))) | exact (aL ‹_›) | exact (aL (aR ‹_›)) | exact (aL (aR (aR ‹_›))) | exact (aL (aR (aR (aR (aR (aR ‹_›)))))) | exact (aL (aR (aR (aR (aR (aR (aR ‹_›))))))) | exact (aL (aR (aR (aR (aR (aR (aR (aR ‹_›)))))))) | exact (aL (aR (aR (aR (aR (aR (aR (aR (aR ‹_›))))))))) | exact Nat.succ_ne_self _ | exact nS (Nat.succ_ne_self _) | exact nG (Nat.lt_succ_of_lt (Nat.lt_succ_self _)) | exact nL (Nat.lt_succ_of_lt (Nat.lt_succ_self _)) | exact nG (Nat.lt_succ_of_lt (Nat.lt_succ_of_lt (Nat.lt_succ_self _))) | exact (aR (aL ‹_›)) | exact (aL (aR (aR (aL ‹_›)))) | exact (aL (aR (aR (aL (aR ‹_›))))) | exact (aR (aL (aR (aR ‹_›)))) | exact (aL (aR (aR (aL (aR (aR ‹_›)))))) | exact (aL (aL (aR (aR (aR ‹_›))))) | exact (aL (aR (aL (aR (aR (aR ‹_›)))))) | exact (aR (aL (aR (aR (aR ‹_›))))) | exact (aL (aR (aR (aL (aR (aR (aR ‹_›))))))) | exact (aR (aR (aL (aR (aR (aR ‹_›)))))) | exact (aL (aL (aR (aR (aR (aR ‹_›)))))) | exact (aL (aR (aL (aR (aR (aR (aR ‹_›))))))) | exact (aR (aL (aR (aR (aR (aR ‹_›)))))) | exact (aL (aR (aR (aL (aR (aR (aR (aR ‹_›)))))))) | exact (aR (aR (aL (aR (aR (aR (aR ‹_›))))))) | exact (aL (aL (aR (aR (aR (aR (aR ‹_›))))))) | exact (aL (aR (aL (aR (aR (aR (aR (aR ‹_›)))))))) | exact (aR (aL (aR (aR (aR (aR (aR ‹_›))))))) | exact (aL (aR (aR (aL (aR (aR (aR (aR (aR ‹_›))))))))) | exact (aR (aR (aL (aR (aR (aR (aR (aR ‹_›)))))))) | exact nS (aL (aL ‹_›)) | exact nS (aL (aR (aL ‹_›))) | exact nS (aR (aL ‹_›)) | exact nS (aL (aR (aR (aL ‹_›)))) | exact nS (aR (aR (aL ‹_›))) | exact nS (aL (aL (aR ‹_›))) | exact nS (aL (aR (aL (aR ‹_›)))) | exact nS (aR (aL (aR ‹_›))) | exact nS (aL (aR (aR (aL (aR ‹_›))))) | exact nS (aR (aR (aL (aR ‹_›)))) | exact nS (aL (aL (aR (aR ‹_›)))) | exact nS (aL (aR (aL (aR (aR ‹_›))))) | exact nS (aR (aL (aR (aR ‹_›)))) | exact nS (aL (aR (aR (aL (aR (aR ‹_›)))))) | exact nS (aR (aR (aL (aR (aR ‹_›))))) | exact nS (aL (aL (aR (aR (aR ‹_›))))) | exact nS (aL (aR (aL (aR (aR (aR ‹_›)))))) | exact nS (aR (aL (aR (aR (aR ‹_›))))) | exact nS (aL (aR (aR (aL (aR (aR (aR ‹_›))))))) | exact nS (aR (aR (aL (aR (aR (aR ‹_›)))))) | exact nS (aL (aL (aR (aR (aR (aR ‹_›)))))) | exact nS (aL (aR (aL (aR (aR (aR (aR ‹_›))))))) | exact nS (aR (aL (aR (aR (aR (aR ‹_›)))))) | exact nS (aL (aR (aR (aL (aR (aR (aR (aR ‹_›)))))))) | exact nS (aR (aR (aL (aR (aR (aR (aR ‹_›))))))) | exact nS (aL (aL (aR (aR (aR (aR (aR ‹_›))))))) | exact nS (aL (aR (aL (aR (aR (aR (aR (aR ‹_›)))))))) | exact nS (aR (aL (aR (aR (aR (aR (aR ‹_›))))))) | exact nS (aL (aR (aR (aL (aR (aR (aR (aR (aR ‹_›))))))))) | exact nS (aR (aR (aL (aR (aR (aR (aR (aR ‹_›))))))))) | decide | fail "none")))
  k_with "x_len" => (first | ((with_reducible apply szAx) <;> walk_at "x_len") | with_reducible assumption | exact Nat.le_of_eq (by with_reducible assumption) | exact szL (by decide +kernel) | fail "none")
  k_with "size_fits" => ((k_whole; ((with_reducible show (_ : Nat) ≤ PySem.sizeLine); (first | (refine' szS ?kwza ?kwzb ?kwzc; (case kwza => walk_at "x_len"); (case kwzb => walk_at "x_len"); (case kwzc => with_unfolding_all exact rfl)) | (refine' szT ?kwza ?kwzc; (case kwza => walk_at "x_len"); (case kwzc => with_unfolding_all exact rfl)) | fail "none"))))
  k_with "binaryOp Add str str" => ((k_here; (with_reducible show wpAny _ _ (binaryOp Operator.Add (Value.str _ _) (Value.str _ _)) _ _ _); (refine' addC ?kwzad1 ?kwzad2 ?kwzad3 ?_; (case kwzad1 => walk_at "x_len"); (case kwzad2 => walk_at "x_len"); (case kwzad3 => with_unfolding_all exact rfl)); intro _ _))
  trivial
example:True:=by
  k_with "s0"=>(first | exact room1 (by with_reducible assumption) (by with_unfolding_all rfl) | exact room0 (by with_reducible assumption) (by with_unfolding_all rfl) | exact roomL (by with_reducible assumption) (by with_unfolding_all rfl) | omega)
  k_with "s1"=>(try simp only [depth_under_make,depth_under_kw,depth_in1,depth_deeper,depth_caller])
  k_with "s2"=>(first | refine exE (tabNe stA stB Nm (by k_mem) (by k_mem) (by k_mem) (by k_mem) (by decide) (by decide)) ?_ | refine aE (tabNe stA stB Nm (by k_mem) (by k_mem) (by k_mem) (by k_mem) (by decide) (by decide)) ?_)
  k_with "s3"=>(case kwu=>(k_extra "s6");(try dsimp only);(k_extra "s0"))
  k_with "s4"=>(case kwd=>(k_extra "s1");(try dsimp only);(k_extra "s0"))
  k_with "s5"=>(first | (k_unfold;(try dsimp only)) | (k_end;kc_close) | (((with_reducible show wpAny _ _ (eval (Expr.Call _ _ _ _) _) _ _ _);(fail_if_success (with_reducible refine hasV (by assumption) ?_));refine cutV ?_;intro zqkd10Q9 zqkd10h9)) | walk1 | (dsimp only;walk1) | (leave1;walk_say "STEP leave1";(try dsimp only)) | ((with_reducible first | refine CutH.next (by assumption) ?_ | refine CutH.ret (by assumption) ?_ | refine CutH.brk (by assumption) ?_ | refine CutH.cont (by assumption) ?_ | refine CutV.go (by assumption) _ _ ?_ | refine CutH.go (by assumption) _ _ ?_);(try dsimp only)) | fail "no step")
  k_with "s6"=>(try simp only [units_in1,units_deeper,Around.mark_units,units_caller])
  k_with "s7"=>(case kwO=>(exact ⟨_,_,_,_,_,_,rfl,by with_reducible assumption,by with_reducible assumption⟩))
  k_with "s8"=>(case kwO=>(exact ⟨_,rfl,⟨_,_,_,rfl,by with_reducible assumption⟩,(by walk_at "k_allne")⟩))
  k_with "r0"=>(exact ⟨vs.length+1 - (i+1),by omega,h₄,tk₄,i+1,m₄,news₄,rfl,hlt',rfl,⟨oI,(N₄ _ (.head _)).1,hoI⟩,F₄,(fun p hp=>N₄ p (.tail _ hp)),off₄,J₄⟩)
  k_with "r1"=>(refine @ctxP _ _ _ _ _ ?_;generalize CtxQ.prog _=prog;generalize CtxQ.w _=w;generalize CtxQ.p _=p;generalize CtxQ.loose _=loose;generalize CtxQ.mean _=mean;generalize CtxQ.mg _=mg;generalize CtxQ.mb _=mb;generalize CtxQ.env _=env;generalize CtxQ.outer _=outer;generalize CtxQ.A₀ _=A₀;generalize CtxQ.base _=base;generalize CtxQ.h₀ _=h₀;generalize CtxQ.L _=L;generalize CtxQ.m _=m;generalize CtxQ.s _=s;generalize CtxQ.Q _=Q;generalize CtxQ.E _=E;generalize CtxQ.dp _=dp;generalize CtxQ.gd _=gd;generalize CtxQ.un _=un)
  k_with "r2"=>(k_dflt refine' enterP (binds:=[(ofString "path",.str x t)]) B F X T rfl hf hke ?k6 ?k7 ?k8 ?k9 ?kB ?c5 ?c2 ?c3 ?c4 ?_)
  k_with "r3"=>(k_dflt refine' enterP (binds:=[(ofString "p",.str x t)]) B F X T rfl hf hke ?k6 ?k7 ?k8 ?k9 ?kB ?c5 ?c2 ?c3 ?c4 ?_)
  k_with "r4"=>(exact h2 ⟨prog,w,p,loose,mean,mg,mb,env,outer,A₀,base,h₀,L,m,s,Q,E,dp,gd,un,mv⟩ B F Nm hO X T hG hf hke hdp hun hpre hret)
  k_with "r5"=>(have e2:(ps++#[rawInt pos.line,rawInt pos.col,.ref c']).toList=ps.toList++[rawInt pos.line,rawInt pos.col,.ref c']:=by simp)
  k_with "r6"=>(exact ⟨vs.length+1 - (i+1),by omega,h₆,g₆,d₆,tk₆,i+1,v,m₆,news₆,rfl,hlt,rfl,hτ₆,G₆,(N₆ _ (.head _)).1,⟨o5,(N₆ _ (.tail _ (.head _))).1,hr5⟩,F₆,(fun p hp=>N₆ p (.tail _ (.tail _ hp))),off₆,J₆⟩)
  k_with "r7"=>(have up:∀ b o,h.get? b=some o→(h.push { cls:=.type "list_iterator",data:=.fields #[.ref ax,.int 0 0] }).get? b=some o:=fun b o e=>Heap.get?_push_of_some _ e)
  k_with "r8"=>(have hit0:(h.push { cls:=.type "list_iterator",data:=.fields #[.ref ax,.int 0 0] }).IsListIter h.objs.size ax 0:=⟨_,Heap.get?_push_size _ rfl,rfl,rfl⟩)
  k_with "r9"=>(have hIH : h.objs.size < (h.push { cls:=.type "list_iterator",data:=.fields #[.ref ax,.int 0 0] }).objs.size:=by rw [Heap.size_push];exact Nat.lt_succ_self _)
  k_with "r10"=>(refine blockX (τ:=τ) (fun i ys n=>J ax vs i ys n) hh haxI hsz (fun i ys n j=>(src ax vs i ys n j).2) hcell hkind hx hit0 hτ₁ G F1 N1 hIL hI₀ offI J0 (fun i ys news v oI C oC D m₂ h g d tk E'=>step ax vs i ys news v _ oI C oC D m₂ h g d tk E') ?_)
  k_with "r11"=>(refine @ctxX _ _ _ _ _ _ _ ?_;generalize CtxQ.prog _=prog;generalize CtxQ.w _=w;generalize CtxQ.p _=p;generalize CtxQ.loose _=loose;generalize CtxQ.mean _=mean;generalize CtxQ.mg _=mg;generalize CtxQ.mb _=mb;generalize CtxQ.env _=env;generalize CtxQ.outer _=outer;generalize CtxQ.A₀ _=A₀;generalize CtxQ.base _=base;generalize CtxQ.h₀ _=h₀;generalize CtxQ.L _=L;generalize CtxQ.m _=m;generalize CtxQ.s _=s;generalize CtxQ.Q _=Q;generalize CtxQ.E _=E;generalize CtxQ.dp _=dp;generalize CtxQ.gd _=gd;generalize CtxQ.un _=un;generalize CtxQ.mv _=mv)
  k_with "r12"=>(k_dflt refine' enterP (binds:=[(ofString "part",.str x t),(ofString "sign",.str y u)]) B F X T rfl hf hke ?k6 ?k7 ?k8 ?k9 ?kB ?c5 ?c2 ?c3 ?c4 ?_)
  k_with "r13"=>(all_goals (refine pbool_of ?_;have hz:=Fct.out (by assumption:Fct ((!decide (y.cps.toList < lo.cps.toList))=_));rw [hz];simp))
  k_with "r14"=>(refine @inOpen _ _ _ _ _ ?_;generalize InX.prog _=prog;generalize InX.w _=w;generalize InX.p _=p;generalize InX.loose _=loose;generalize InX.mean _=mean;generalize InX.mg _=mg;generalize InX.mb _=mb;generalize InX.env _=env;generalize InX.outer _=outer;generalize InX.A₀ _=A₀;generalize InX.base _=base;generalize InX.g _=g;generalize InX.L _=L;generalize InX.m _=m;generalize InX.s _=s;generalize InX.Q _=Q;generalize InX.E _=E;generalize InX.dp _=dp;generalize InX.gd _=gd;generalize InX.un _=un;generalize InX.f _=f;generalize InX.l _=l;generalize InX.D _=D;generalize InX.c1 _=c1;generalize InX.c2 _=c2;generalize InX.c3 _=c3;generalize InX.cP _=cP;generalize InX.o1 _=o1;generalize InX.o2 _=o2;generalize InX.o3 _=o3;generalize InX.ocP _=ocP;generalize InX.xs _=xs;generalize InX.xl _=xl;generalize InX.nx _=nx;generalize InX.nl _=nl;generalize InX.dc _=dc;generalize InX.nm _=nm;generalize InX.ct _=ct;generalize InX.ps _=ps;generalize InX.vs _=vs;generalize InX.tq _=tq;generalize InX.t _=t;generalize InX.u _=u;generalize InX.v _=v;generalize InX.k _=k)
  k_with "r15"=>(refine @dnOpen _ _ _ _ _ ?_;generalize DnX.prog _=prog;generalize DnX.w _=w;generalize DnX.p _=p;generalize DnX.loose _=loose;generalize DnX.mean _=mean;generalize DnX.mg _=mg;generalize DnX.mb _=mb;generalize DnX.env _=env;generalize DnX.outer _=outer;generalize DnX.A₀ _=A₀;generalize DnX.base _=base;generalize DnX.g _=g;generalize DnX.L _=L;generalize DnX.m _=m;generalize DnX.s _=s;generalize DnX.Q _=Q;generalize DnX.E _=E;generalize DnX.dp _=dp;generalize DnX.gd _=gd;generalize DnX.un _=un;generalize DnX.f _=f;generalize DnX.D _=D;generalize DnX.c1 _=c1;generalize DnX.c2 _=c2;generalize DnX.c3 _=c3;generalize DnX.cP _=cP;generalize DnX.o1 _=o1;generalize DnX.o2 _=o2;generalize DnX.o3 _=o3;generalize DnX.ocP _=ocP;generalize DnX.xs _=xs;generalize DnX.nx _=nx;generalize DnX.dc _=dc;generalize DnX.nm _=nm;generalize DnX.ct _=ct;generalize DnX.ps _=ps;generalize DnX.vs _=vs;generalize DnX.tq _=tq;generalize DnX.u _=u;generalize DnX.v _=v;generalize DnX.k _=k)
  k_with "r16"=>(refine @ctxM _ _ _ _ _ _ _ ?_;generalize CtxQ.prog _=prog;generalize CtxQ.w _=w;generalize CtxQ.p _=p;generalize CtxQ.loose _=loose;generalize CtxQ.mean _=mean;generalize CtxQ.mg _=mg;generalize CtxQ.mb _=mb;generalize CtxQ.env _=env;generalize CtxQ.outer _=outer;generalize CtxQ.A₀ _=A₀;generalize CtxQ.base _=base;generalize CtxQ.h₀ _=h₀;generalize CtxQ.L _=L;generalize CtxQ.m _=m;generalize CtxQ.s _=s;generalize CtxQ.Q _=Q;generalize CtxQ.E _=E;generalize CtxQ.dp _=dp;generalize CtxQ.gd _=gd;generalize CtxQ.un _=un;generalize CtxQ.mv _=mv)
  k_with "r17"=>((rename Fr g _ _ _=>F9);(rename News g _ _ _=>N9);(rename (_=Data.fields _)=>d8);(rename (_[1]?=some (Value.str _ _))=>d9))
  k_with "r18"=>(refine' tabOut (P:=100) (l:=162) (k:=4) (qual:=ofString "_int2digits.<locals>.inner") N9 ?c1 ?c2 d8 d9 (fun mv' hm ht=>hret _ _ _ mv' F9.keep (Nat.le_trans hsz (Nat.le_of_lt F9.ns.lt)) hm ht ?_))
  k_with "r19"=>(refine' tabOut (P:=107) (l:=177) (k:=4) (qual:=ofString "_digits2int.<locals>.inner") N9 ?c1 ?c2 d8 d9 (fun mv' hm ht=>hret _ _ _ mv' F9.keep (Nat.le_trans hsz (Nat.le_of_lt F9.ns.lt)) hm ht ?_))
  k_with "r20"=>(have hz:(decide (p≤c) && decide (c≤q))=false:=by rw [Bool.and_eq_false_iff];simp only [decide_eq_false_iff_not];omega)
  k_with "r21"=>((rename Fr g _ _ _=>F9);(rename News g _ _ _=>N9);(rename TabSt 100 _ _ _ _ _ _=>s8);(rename TabSt 107 _ _ _ _ _ _=>s9))
  k_with "r22"=>(refine hret _ _ _ [(100,_),(_,_),(107,_),(_,_)] F9.keep (Nat.le_trans hsz (Nat.le_of_lt F9.ns.lt)) (mvOut_of N9 (by lcg_sub)) ⟨_,_,_,_,_,_,rfl,s8,s9⟩ ?_)
  k_with "r23"=>(k_dflt refine' enterM (binds:=[(ofString "a",.int (a:Int) t),(ofString "b",.int 1000 u)]) B F Nm X T rfl hf hke ?k6 ?k7 ?k8 ?k9 ?kB ?c5 ?c2 ?c3 ?c4 ?_)
  k_with "r24"=>(k_dflt refine' enterCM (binds:=[(ofString "s",.str x t)]) B F Nm X T rfl hf hke ?k6 ?k7 ?k8 ?k9 ?kB ?kD ?c2 ?c3 ?c4 ?_)
  k_with "r25"=>(refine' tabOut (P:=72) (l:=122) (k:=4) (qual:=ofString "_str_to_int_inner.<locals>.inner") N9 ?c1 ?c2 d8 d9 (fun mv' hm ht=>hret _ _ _ _ _ mv' F9.keep (Nat.le_trans hsz (Nat.le_of_lt F9.ns.lt)) hm ht (by assumption) ?_))
  k_with "r26"=>(k_dflt refine' enterM (binds:=[(ofString "a",.int a t),(ofString "b",.int 1000 u)]) B F Nm X T rfl hf hke ?k6 ?k7 ?k8 ?k9 ?kB ?c5 ?c2 ?c3 ?c4 ?_)
  k_with "r27"=>(k_dflt refine' enterM (binds:=[(ofString "number",.int n t),(ofString "turn",.int k u)]) B F Nm X T rfl hf hke ?k6 ?k7 ?k8 ?k9 ?kB ?c5 ?c2 ?c3 ?c4 ?_)
  k_with "r28"=>(refine ⟨rfl,_,_,_,_,_,_,B'.length,rfl,hT6.le,G',F6,N6,by simp,⟨A++[.star],B',_,_,_,D,b,_,_,_,_,by rw [hs];simp,rfl,?hi,by walk_at "k_canon",rfl,⟨n1,n2,n3⟩,hps',?sz,?its⟩⟩)
  k_with "r29"=>(exact ⟨rfl,_,_,_,_,_,_,v,rfl,hT6.le,G2,F6,N6,Nat.lt_succ_self _,⟨j+1,_,_,_,_,by omega,by rw [hj];omega,by walk_at "k_canon",rfl⟩⟩)
  k_with "r30"=>((rename Fr _ _ _ _=>F6);(rename News _ _ _ _=>N6);(rename tAt _ _=>hT6);(rename T57 _ _ _=>h57');(rename TokV _ _=>hV6))
  k_with "r31"=>(exact ⟨rfl,_,_,_,_,_,_,B'.length,rfl,hT6.le,G2,F6,nsO N6 (mv:=[(D,_),(b,_),(57,_)]) (by lcg_sub),by simp,⟨A++[g0],B',j+1,_,_,D,b,_,_,_,_,by rw [hs];simp,rfl,(by rw [← len_star A g0,hlt,hj];simp;omega),by walk_at "k_canon",rfl,⟨n1,n2,n3⟩,h57',(by simp;omega),(by rw [sgS,hg0];exact its_push (.other _ _ (brk_many _) (Nat.lt_of_lt_of_le (by omega) hV6.le) hI))⟩⟩)
  k_with "r32"=>((rename Fr _ _ _ _=>F6);(rename News g _ _ ((_,_)::_)=>N6);(rename tAt _ _=>hT6);(rename IsRange _ _ _ _ _ _ _ _=>R6))
  k_with "r33"=>(exact ⟨_,_,_,_,_,_,_,_,_,_,_,rfl,rfl,R6,by decide,by decide,hT6.le,G2,F6,N6,⟨_,_,_,_,_,by walk_at "k_canon",rfl,.inr ⟨.inl rfl,_,_,rfl⟩⟩⟩)
  k_with "r34"=>(exact ⟨_,_,_,_,_,_,rfl,hT6.le,G3,F6,nsO N6 (mv:=[(I,oI),(lc,_),(D,_),(b,_),(57,_)]) (by lcg_sub),(by walk_at "k_off"),⟨_,_,_,_,_,by walk_at "k_canon",rfl,.inl ⟨rfl,hpq,_,rfl⟩⟩⟩)
  k_with "r35"=>(exact ⟨_,_,_,_,_,_,rfl,hT6.le,G3,F6,nsO N6 (mv:=[(I,oI),(lc,_),(D,_),(b,_),(57,_)]) (by lcg_sub),(by walk_at "k_off"),⟨_,_,_,_,_,by walk_at "k_canon",rfl,.inr ⟨.inr hpq,_,_,rfl⟩⟩⟩)
  k_with "r36"=>(refine quiet_repl (pl1:=_) (pl2:=_) (fun _ h=>by subst h;rfl) (fun _ h=>by subst h;rfl) rfl rfl (by decide) hits1 ?e1 ?e2)
  k_with "r37"=>(refine quiet_repl (pl1:=_) (pl2:=_) (fun _ h=>by subst h;rfl) (fun _ h=>by subst h;rfl) rfl rfl (by decide) hits2 ?e1 ?e2)
  k_with "r38"=>(exact ⟨rfl,_,_,_,_,_,_,B'.length,rfl,hT6.le,G7,F6,nsO N6 (mv:=[(D,_),(b,_),(57,_)]) (by lcg_sub),by simp,⟨A++[g0],B',j+1,_,_,D,b,_,_,_,_,by rw [hs];simp,rfl,(by rw [← len_star A g0,hlt,hj];simp;omega),by walk_at "k_canon",rfl,⟨n1,n2,n3⟩,h57',(by simp;omega),(by rw [sgS,hg0,step_le hpq'];exact its_push (.other _ _ (brk_many _) (Nat.lt_of_lt_of_le (by omega) hV6.le) hI))⟩⟩)
  k_with "r39"=>(have mem:∀ {q:Addr×Obj},q∈[(100,oA),(cA,ocA),(107,oB),(cB,ocB),(72,o7),(c7,oc7),(57,tabObj ps)]→q∈pre++([(100,oA),(cA,ocA),(107,oB),(cB,ocB),(72,o7),(c7,oc7),(57,tabObj ps)]++as):=fun h=>List.mem_append_right _ (List.mem_append_left _ h))
  k_with "r40"=>(obtain ⟨n1,n2,n3⟩:=tabNe a c N (mem (by simp)) (mem (by simp)) (mem (by simp)) (mem (by simp)) (by decide) (by decide))
  k_with "r41"=>(obtain ⟨n4,n5,n6⟩:=tabNe b c N (mem (by simp)) (mem (by simp)) (mem (by simp)) (mem (by simp)) (by decide) (by decide))
  k_with "r42"=>(replace N5:=nsO N5 (mv:=[(D₂,LCg.lst [.int (p0:Int) u1,.int (q0:Int) u2,.int (r0:Int) u3]),(D,LCg.lst ys),(L+1+1,o2),(L+1,o1),(107,tabObj #[]),(100,tabObj #[]),(72,tabObj #[]),(57,tabObj #[])]) (by lcg_sub))
  k_with "r43"=>((case zB=>exact B);(case zF=>exact F6);(case zX=>exact X);(case zT=>exact T);(case z1=>exact rfl);(case z2=>exact rfl);(case z3=>first | exact rfl | assumption);(case z4=>first | exact rfl | assumption);(case zd=>(k_extra "s1");(try dsimp only);omega);(case zu=>(k_extra "s6");(try dsimp only);omega))
  trivial
theorem isSub_str : isSubtype (.type "str") (.type "str")=pure true:=by rw [isSubtype_type];kernel_rfl
theorem isub_nested {prog : Program} {w : World} {A : Around} {E : Value → Shared → Prop} {s : Shared} {k : Value} {dep : Int} {tk : Tok} {Q : Fin → Shared → Prop} (hk : k = .int dep tk) (hq : Q (.done (.ret (.bool true))) s) :
    wpAny (model prog w) A (Builtin.«issubclass.nested» ⟨[.type "str",.type "str",k],[]⟩) Q E s:=by
  subst hk
  have hself:=isSub_str
  repeat (any_goals (first | assumption | (rw [hself]) | wp_step))
theorem kind_isub_nested : builtinKind "issubclass.nested"=none:=by decide +kernel
theorem plain_isub_nested : plainId "issubclass.nested"=true:=by decide +kernel
theorem args_isub_nested (a b c:Value) : argsOk "issubclass.nested" ⟨[a,b,c],[]⟩:=by unfold argsOk;kernel_rfl
theorem isub_tuple {prog : Program} {w : World} {A : Around} {E : Value → Shared → Prop} {s : Shared} {tp : Addr} {c : Value} {tk : Tok} {Q : Fin → Shared → Prop} (ht : s.heap.get? tp = some { cls := .type "tuple", data := .seq #[.type "str", c] }) (hq : Q (.done (.ret (.bool true))) s) :
    wpAny (model prog w) A (Builtin.«issubclass.nested» ⟨[.type "str",.ref tp,.int 0 tk],[]⟩) Q E s:=by
  obtain ⟨h,g,d,t,os⟩:=s
  have hT2:(⟨h,g,d,t,os⟩:Shared).TypeIs (.ref tp) "tuple":=⟨_,ht,rfl⟩
  have f1:=F.isi_sub_tuple
  repeat (any_goals (first | assumption | ((with_reducible show wpAny _ _ (call _ _) _ _ _);refine call_function_meets (args:=[.type "str",.type "str",rawInt 1]) kind_isub_nested plain_isub_nested F.entry_issubclass_nested (args_isub_nested _ _ _) (S:=fun _ R s=>R (.ok (.ret (.bool true))) s) (fun _ _ _ _ _ hs=>isub_nested rfl hs) ?_) | wp_step))
  all_goals trace_state
theorem issub_tup {prog : Program} {w : World} {A : Around} {E : Value → Shared → Prop} {s : Shared} {tp : Addr} {c : Value} {Q : Value → Shared → Prop} (ht : s.heap.get? tp = some { cls := .type "tuple", data := .seq #[.type "str", c] }) (hq : Q (.bool true) s) :
    wpAny (model prog w) A (call (.builtin "issubclass") [.type "str",.ref tp]) Q E s :=
  call_issubclass (S:=fun _ R s=>s.heap.get? tp=some { cls:=.type "tuple",data:=.seq #[.type "str",c] }∧R (.ok (.ret (.bool true))) s) (fun _ _ _ _ _ hs=>issubclass_outer (isub_tuple hs.1 hs.2)) ⟨ht,hq⟩
section
variable {prog:Program} {w:World} {A:Around} {E:Value→Shared→Prop} {s:Shared} {value slice:PySem.Expr} {x y:Str} {t:Tok} {h₀:Heap} {L:Addr} {m:Str→Option Value} {news:List (Addr×Obj)} {Q:Value→Shared→Prop}
theorem itemE {i : Int} {u : Tok} (e : Fct (Txt.item x i = y)) (hr : fitsSsize i = true) (h1 : -(x.length : Int) ≤ i) (h2 : i < x.length) (h : ∀ t' k, Q (.str y t') { s with toks := k })
    (hs : subscripted slice false (.str x t) (.int i u)=operate [.str x t,.int i u] (getItem (.str x t) (.int i u)):=by with_unfolding_all rfl)
    (ht:∀ r,letTemporaryGo value (.str x t) r=pure ():=by intros _;with_unfolding_all rfl) :
    wpAny (model prog w) A (subscriptTail value slice (.str x t) (.int i u)) Q E s:=item_str hr h1 h2 (fun _=>by rw [e.out];exact h _ _) hs ht
theorem sliceE_sn {i : Int} {ui : Tok} (e : Fct (Txt.slice x (some i) none = y)) (hF : Fr h₀ L s.heap m) (hN : News h₀ L s.heap news) (h : ∀ h' t' k, Fr h₀ L h' m → News h₀ L h' news → Q (.str y t') { s with heap := h', toks := k })
    (hs : subscripted slice false (.str x t) (.ref s.heap.objs.size)=operate [.ref s.heap.objs.size,.str x t] (getItem (.str x t) (.ref s.heap.objs.size)):=by with_unfolding_all rfl)
    (ht:∀ r,letTemporaryGo value (.str x t) r=pure ():=by intros _;with_unfolding_all rfl) (hsz : x.length≤sizeLine:=by size_fits) :
    wpAny (model prog w) A (subscriptTail value slice (.str x t) (.ref s.heap.objs.size)) Q E { s with heap:=s.heap.push { cls:=.type "slice",data:=.fields #[.int i ui,.none,.none] } } :=
  slice_strN_sn hF hN (fun h' t' k a b=>by rw [e.out];exact h h' t' k a b) hs ht hsz
theorem sliceE_ns {j : Int} {uj : Tok} (e : Fct (Txt.slice x none (some j) = y)) (hF : Fr h₀ L s.heap m) (hN : News h₀ L s.heap news) (h : ∀ h' t' k, Fr h₀ L h' m → News h₀ L h' news → Q (.str y t') { s with heap := h', toks := k })
    (hs : subscripted slice false (.str x t) (.ref s.heap.objs.size)=operate [.ref s.heap.objs.size,.str x t] (getItem (.str x t) (.ref s.heap.objs.size)):=by with_unfolding_all rfl)
    (ht:∀ r,letTemporaryGo value (.str x t) r=pure ():=by intros _;with_unfolding_all rfl) (hsz : x.length≤sizeLine:=by size_fits) :
    wpAny (model prog w) A (subscriptTail value slice (.str x t) (.ref s.heap.objs.size)) Q E { s with heap:=s.heap.push { cls:=.type "slice",data:=.fields #[.none,.int j uj,.none] } } :=
  slice_strN_ns hF hN (fun h' t' k a b=>by rw [e.out];exact h h' t' k a b) hs ht hsz
theorem sliceE_ss {i j : Int} {ui uj : Tok} (e : Fct (Txt.slice x (some i) (some j) = y)) (hF : Fr h₀ L s.heap m) (hN : News h₀ L s.heap news) (h : ∀ h' t' k, Fr h₀ L h' m → News h₀ L h' news → Q (.str y t') { s with heap := h', toks := k })
    (hs : subscripted slice false (.str x t) (.ref s.heap.objs.size)=operate [.ref s.heap.objs.size,.str x t] (getItem (.str x t) (.ref s.heap.objs.size)):=by with_unfolding_all rfl)
    (ht:∀ r,letTemporaryGo value (.str x t) r=pure ():=by intros _;with_unfolding_all rfl) (hsz : x.length≤sizeLine:=by size_fits) :
    wpAny (model prog w) A (subscriptTail value slice (.str x t) (.ref s.heap.objs.size)) Q E { s with heap:=s.heap.push { cls:=.type "slice",data:=.fields #[.int i ui,.int j uj,.none] } } :=
  slice_strN_ss hF hN (fun h' t' k a b=>by rw [e.out];exact h h' t' k a b) hs ht hsz
end
theorem strEq (l m:List Nat):((⟨l.toArray⟩:Str) == ⟨m.toArray⟩)=decide (l=m):=by
  rw [Bool.eq_iff_iff];simp
theorem strNe (l m:List Nat):((⟨l.toArray⟩:Str) != ⟨m.toArray⟩)=!decide (l=m):=by
  show (!((⟨l.toArray⟩:Str) == ⟨m.toArray⟩))=_
  rw [strEq]
theorem iteF {b:Bool} {p q:Prop} (h1:Fct (b=true)→p) (h2:Fct (b=false)→q) : if b=true then p else q:=by
  cases b with
  | true=>exact h1 ⟨rfl⟩
  | false=>exact h2 ⟨rfl⟩
noncomputable def Stopped (P:Prop):Prop:=P
theorem Stopped.go {P:Prop} (h:Stopped P):P:=h
theorem strsGet : ∀ {vs : List Value} {ps : List Str}, StrsAre vs ps → ∀ {i : Nat} {v : Value}, vs[i]? = some v → ∃ y t, v = .str y t ∧ ps[i]? = some y
  | _,_,.cons y t _,0,v,e=>⟨y,t,by simpa using e.symm,rfl⟩
  | _,_,.cons _ _ h,i+1,v,e=>strsGet h (i:=i) (by simpa using e)
  | _,_,.nil,i,v,e=>by simp at e
theorem iG : ∀ {vs : List Value} {ns : List Int}, IntsAre vs ns → ∀ {i : Nat} {v : Value}, vs[i]? = some v → ∃ n t, v = .int n t ∧ ns[i]? = some n
  | _,_,.cons y t _,0,v,e=>⟨y,t,by simpa using e.symm,rfl⟩
  | _,_,.cons _ _ h,i+1,v,e=>iG h (i:=i) (by simpa using e)
  | _,_,.nil,i,v,e=>by simp at e
theorem newsPlain {h₀ h h':Heap} {L:Addr} {m:Str→Option Value} {news:List (Addr×Obj)} {o:Obj} (F:Fr h₀ L h m) (N:News h₀ L h' news) (hf : h₀.get? h.objs.size=none) (hg : h'.get? h.objs.size=some o):News h₀ L h' ((h.objs.size,o)::news):=fun p hp=>by
  rcases List.mem_cons.mp hp with rfl | hp
  · exact ⟨hg,Nat.ne_of_gt F.ns.lt,hf⟩
  · exact N p hp
theorem newsAllLt {h₀ h:Heap} {L:Addr} {news:List (Addr×Obj)} (N:News h₀ L h news):∀ p∈news,p.1 < h.objs.size:=fun p hp=>Heap.lt_size (N p hp).1
example:True:=by
  k_with "oeqN"=>apply Lx.l170<;>assumption
  k_with "oeqN"=>apply Lx.l331
  k_with "oltN"=>apply Lx.l316<;>assumption
  trivial
noncomputable def ForPost (h₀:Heap) (L:Addr) (Jn:(Str→Option Value)→List (Addr×Obj)→Prop) (I:Addr) (oI:Obj) (s:Shared) (Q:Flow→Shared→Prop) (f:Flow) (s₃:Shared):Prop :=
  match f with
  | .ret v=>Q (.ret v) s₃
  | .brk=>Q .next s₃
  | _=>∃ h tk m news,s₃={ s with heap:=h,toks:=tk }∧Fr h₀ L h m∧News h₀ L h ((I,oI)::news)∧(∀ p∈news,p.1≠I)∧Jn m news
noncomputable def ForHit (h₀:Heap) (L ax:Addr) (J0:(Str→Option Value)→List (Addr×Obj)→Prop) (s:Shared) (xv:Value) (s₁:Shared):Prop :=
  xv=.ref ax∧∃ h tk m news,s₁={ s with heap:=h,toks:=tk }∧Fr h₀ L h m∧News h₀ L h news∧J0 m news
inductive FgI (h₀ : Heap) (L : Addr) (s : Shared) (nv : Nat) (I ax : Addr) (J : Nat → (Str → Option Value) → List (Addr × Obj) → Prop) (k : Nat) (s' : Shared) : Prop
  | mk (h':Heap) (tk' i:Nat) (m':Str→Option Value) (news':List (Addr×Obj)) (_ : s'={ s with heap:=h',toks:=tk' }) (_ : i≤nv) (_ : k=nv+1 - i) (_ : h'.IsListIter I ax i) (_:Fr h₀ L h' m') (_:News h₀ L h' news') (_:∀ p∈news',p.1≠I) (_:J i m' news')
section
variable {prog:Program} {w:World} {A:Around} {E:Value→Shared→Prop} {Q:Flow→Shared→Prop} {s:Shared} {env:Env} {h₀:Heap} {L ax:Addr} {vs:List Value} {target iter:PySem.Expr} {body:List Stmt} {pos:Pos}
theorem forGen (J : Nat → (Str → Option Value) → List (Addr × Obj) → Prop) (hh : A.handled = none)
    (src:∀ i m' news' h',J i m' news'→Fr h₀ L h' m'→News h₀ L h' news'→h'.IsList ax vs.toArray)
    (hit : wpAny (model prog w) A (eval iter env) (ForHit h₀ L ax (J 0) s) E s)
    (step:∀ i v m₁ news₁ h tk I oI,vs[i]?=some v→J i m₁ news₁→Fr h₀ L h m₁→News h₀ L h ((I,oI)::news₁)→(∀ p∈news₁,p.1≠I) →
      wpAny (model prog w) A (assign target env v) (fun _ s₂=>wpAny (model prog w) A (execs body env) (ForPost h₀ L (J (i+1)) I oI s Q) E s₂) E { s with heap:=h,toks:=tk })
    (done:∀ m₁ news₁ h tk,J vs.length m₁ news₁→Fr h₀ L h m₁→News h₀ L h news₁→Q .next { s with heap:=h,toks:=tk })
    (ht:∀ it v,letOwnedTupleGo target it v=pure ():=by intros _ _;rfl)
    (hs:∀ x,foldedSetIterable iter env x=pure x:=by intros _;rfl)
    (hE:PassesOwn (model prog w) A env E:=by passes_own) :
    wpAny (model prog w) A (exec (.For target iter body [] pos) env) Q E s:=by
  refine wpAny_For (wpAny_mono hit (fun xv s₁ h₁=>?_) fun _ _ e=>e) hs
  obtain ⟨rfl,h,tk,m,news,rfl,F,N,J0⟩:=h₁
  have hl:=src _ _ _ _ J0 F N
  refine wpAny_pyIter_list hl ?_
  have hlt : ax < h.objs.size:=by obtain ⟨_,e,_⟩:=hl;exact Heap.lt_size e
  have hne : ax≠h.objs.size:=Nat.ne_of_lt hlt
  have hI₀ : h₀.get? h.objs.size=none:=next_is_new F
  have hIL : h.objs.size≠L:=Nat.ne_of_gt F.ns.lt
  have W:=Walks.list (prog:=prog) (w:=w) (A:=A) hh h.objs.size ax hne vs.toArray
  have keepF:∀ {h' h'':Heap} {m':Str→Option Value},Fr h₀ L h' m'→(∀ b o,b ∉ [h.objs.size]→h'.get? b=some o→h''.get? b=some o)→Fr h₀ L h'' m':=fun F' k =>
    ⟨F'.ns.at' fun o e=>k L o (by simpa using Ne.symm hIL) e,fun b o e=>k b o (fun q=>by rw [List.mem_singleton.mp q,hI₀] at e;cases e) (F'.keep b o e),F'.above⟩
  have keepN:∀ {h' h'':Heap} {nw:List (Addr×Obj)},News h₀ L h' nw→(∀ p∈nw,p.1≠h.objs.size)→(∀ b o,b ∉ [h.objs.size]→h'.get? b=some o→h''.get? b=some o)→News h₀ L h'' nw:=fun N' off k p hp =>
    ⟨k _ _ (by simpa using off p hp) (N' p hp).1,(N' p hp).2⟩
  refine codeAny_forLoop (FgI h₀ L s vs.length h.objs.size ax J) ?_ (vs.length + 1)
    ⟨_,tk,0,m,news,rfl,Nat.zero_le _,rfl,⟨_,Heap.get?_push_size _ rfl,rfl,rfl⟩,F.push _,(fun p hp=>⟨Heap.get?_push_of_some _ (N p hp).1,(N p hp).2⟩),(fun p hp=>Nat.ne_of_lt (Heap.lt_size (N p hp).1)),J0⟩ (ht _)
  rintro k s' ⟨h',tk',i,m',news',rfl,hi,rfl,hit',F',N',off',hJ⟩
  by_cases hlt' : i < vs.length
  · refine W.item i _ _ _ (by simpa using hlt') ⟨hit', src _ _ _ _ hJ F' N'⟩ fun v h₁ tk₁ hv hst₁ hk₁ => ?_
    obtain ⟨oI,heI,hoI⟩:=hst₁.1
    have F₁:=keepF F' hk₁
    have N₁:=keepN N' off' hk₁
    have hv' : vs[i]?=some v:=by simpa using hv
    refine wpAny_passesOwn hE (wpAny_mono (step i v m' news' h₁ tk₁ h.objs.size oI hv' hJ F₁ (fun p hp=>?_) off') (fun _ s₂ h₂=>wpAny_passesOwn hE (wpAny_mono h₂ (fun f s₃ h₃=>?_) fun _ _ e=>e)) fun _ _ e=>e)
    · rcases List.mem_cons.mp hp with rfl | hp
      · exact ⟨heI,hIL,hI₀⟩
      · exact N₁ p hp
    · cases f with
      | ret v=>exact h₃
      | brk=>exact h₃
      | next =>
        obtain ⟨h₄,tk₄,m₄,news₄,rfl,F₄,N₄,off₄,J₄⟩:=h₃
        k_extra "r0"
      | cont =>
        obtain ⟨h₄,tk₄,m₄,news₄,rfl,F₄,N₄,off₄,J₄⟩:=h₃
        k_extra "r0"
  · have hin : i = vs.length := by omega
    subst hin
    refine W.done _ _ _ ⟨by simpa using hit',src _ _ _ _ hJ F' N'⟩ fun h₁ tk₁ hk₁=>wpAny_execs_nil ?_
    exact done m' news' h₁ tk₁ hJ (keepF F' hk₁) (keepN N' off' hk₁)
end
section
open PyProof.Rows.LCg PyProof.Rows.LCt
theorem compRestT_inv {prog : Program} {w : World} {A : Around} {h₀ : Heap} {L : Addr} {m : Str → Option Value} {env : Env} {ct elt : Expr} {x : Str} {scope : Scope} {cl : List (Str × Addr)} {s : Shared} {S : List (Addr × Obj) → Prop} {P : Nat → Value → Prop} {Fin : List Value → List (Addr × Obj) → Prop} {n : Nat} {news₀ : List (Addr × Obj)}
    (J:Nat→List Value→List (Addr×Obj)→Prop) (h0:J 0 [] news₀)
    (step:∀ i ys news,i < n→J i ys news→∀ v I oI C oC D m₂ h tk (E':Value→Shared→Prop),P i v→NsObj oC m₂→m₂ x=some v→Fr h₀ L h m→News h₀ L h ((I,oI)::(C,oC)::(D,lst ys)::news)→Off3 I C D news→((@Ne Nat I C)∧(@Ne Nat I D)∧(@Ne Nat C D)) →
      wpAny (model prog w) A (isTrue ct (compEnvC scope cl C env) (eval ct (compEnvC scope cl C env))) (fun ok s' => if ok = true then
        wpAny (model prog w) A (eval elt (compEnvC scope cl C env)) (CompEnd h₀ L m { s with heap:=h,toks:=tk } I oI C oC D (lst ys) S (fun y news'=>J (i+1) (ys++[y]) news')) E' s'
        else CompEnd h₀ L m { s with heap:=h,toks:=tk } I oI C oC D (lst ys) S (fun _ news'=>J (i+1) ys news') Value.none s') E' { s with heap:=h,toks:=tk })
    (fin:∀ ys news,J n ys news→Fin ys news):CompRestT prog w A h₀ L m env ct elt x scope cl s S P Fin n 0 [] news₀:=by
  have go:∀ k i ys news,i+k=n→J i ys news→CompRestT prog w A h₀ L m env ct elt x scope cl s S P Fin k i ys news:=by
    intros k
    induction k with
    | zero => intros i ys news e hJ; obtain rfl : i = n := by omega
              exact fin _ _ hJ
    | succ k ih =>
      intros i ys news e hJ v I oI C oC D m₂ h tk E' h1 h2 h3 h4 h5 h6 h7
      refine wpAny_mono (step i ys news (by omega) hJ v I oI C oC D m₂ h tk E' h1 h2 h3 h4 h5 h6 h7) (fun ok s' q=>?_) fun _ _ z=>z
      cases ok with
      | true =>
        simp only [if_true] at q ⊢
        refine wpAny_mono q (fun y s'' q=>?_) fun _ _ z=>z
        obtain ⟨h',tk',news',e',F',N',o',S',r'⟩:=q
        exact ⟨h',tk',news',e',F',N',o',S',ih _ _ _ (by omega) r'⟩
      | false =>
        simp only [Bool.false_eq_true,if_false] at q ⊢
        obtain ⟨h',tk',news',e',F',N',o',S',r'⟩:=q
        exact ⟨h',tk',news',e',F',N',o',S',ih _ _ _ (by omega) r'⟩
  exact go n 0 [] news₀ (by omega) h0
theorem compRest_inv {prog : Program} {w : World} {A : Around} {h₀ : Heap} {L : Addr} {m : Str → Option Value} {env : Env} {elt : Expr} {x : Str} {scope : Scope} {cl : List (Str × Addr)} {s : Shared} {S : List (Addr × Obj) → Prop} {P : Nat → Value → Prop} {Fin : List Value → List (Addr × Obj) → Prop} {n : Nat} {news₀ : List (Addr × Obj)}
    (J:Nat→List Value→List (Addr×Obj)→Prop) (h0:J 0 [] news₀)
    (step:∀ i ys news,i < n→J i ys news→∀ v I oI C oC D m₂ h tk (E':Value→Shared→Prop),P i v→NsObj oC m₂→m₂ x=some v→Fr h₀ L h m→News h₀ L h ((I,oI)::(C,oC)::(D,lst ys)::news)→Off3 I C D news→((@Ne Nat I C)∧(@Ne Nat I D)∧(@Ne Nat C D)) →
      wpAny (model prog w) A (eval elt (compEnvC scope cl C env)) (CompEnd h₀ L m { s with heap:=h,toks:=tk } I oI C oC D (lst ys) S (fun y news'=>J (i+1) (ys++[y]) news')) E' { s with heap:=h,toks:=tk })
    (fin:∀ ys news,J n ys news→Fin ys news):CompRest prog w A h₀ L m env elt x scope cl s S P Fin n 0 [] news₀:=by
  have go:∀ k i ys news,i+k=n→J i ys news→CompRest prog w A h₀ L m env elt x scope cl s S P Fin k i ys news:=by
    intros k
    induction k with
    | zero => intros i ys news e hJ; obtain rfl : i = n := by omega
              exact fin _ _ hJ
    | succ k ih =>
      intros i ys news e hJ v I oI C oC D m₂ h tk E' h1 h2 h3 h4 h5 h6 h7
      refine wpAny_mono (step i ys news (by omega) hJ v I oI C oC D m₂ h tk E' h1 h2 h3 h4 h5 h6 h7) (fun y s' q=>?_) fun _ _ z=>z
      obtain ⟨h',tk',news',e',F',N',o',S',r'⟩:=q
      exact ⟨h',tk',news',e',F',N',o',S',ih _ _ _ (by omega) r'⟩
  exact go n 0 [] news₀ (by omega) h0
end
theorem intsSnoc {k : Int} {t : Tok} : ∀ {ys : List Value} {ms : List Int}, IntsAre ys ms → IntsAre (ys ++ [.int k t]) (ms ++ [k])
  | _,_,.nil=>.cons _ _ .nil
  | _,_,.cons a b h=>.cons a b (intsSnoc h)
noncomputable def setM (kv:List (Str×Value)) (g:Str→Option Value):Str→Option Value:=fun y=>match kv.lookup y with
  | some v=>some v
  | none=>g y
theorem mem_of_lookup {y : Str} {v : Value} : ∀ {kv : List (Str × Value)}, kv.lookup y = some v → (y, v) ∈ kv
  | [],h=>by simp at h
  | (k,u)::r,h=>by
    rw [List.lookup_cons] at h
    by_cases e:(y == k)=true
    · rw [e] at h;simp at h;subst h;rw [eq_of_beq e];exact .head _
    · have e' : (y == k) = false := by simpa using e
      rw [e'] at h;exact .tail _ (mem_of_lookup h)
theorem setM_of {kv:List (Str×Value)} {m:Str→Option Value} (h:∀ p∈kv,m p.1=some p.2) : m=setM kv m:=by
  funext y
  unfold setM
  cases e : kv.lookup y with
  | none=>rfl
  | some v=>exact h _ (mem_of_lookup e)
noncomputable def PB (h₀:Heap) (L:Addr) (m:Str→Option Value) (news:List (Addr×Obj)) (s:Shared) (b:Bool) (v:Value) (s':Shared):Prop :=
  v=.bool b∧∃ h' tk,s'={ s with heap:=h',toks:=tk }∧Fr h₀ L h' m∧News h₀ L h' news
theorem joinB {prog : Program} {w : World} {A : Around} {E : Value → Shared → Prop} {Q : Value → Shared → Prop} {s : Shared} {e : PySem.Expr} {env : Env} {h₀ : Heap} {L : Addr} {m : Str → Option Value} {news : List (Addr × Obj)} (b : Bool)
    (_:Fr h₀ L s.heap m) (_:News h₀ L s.heap news) (h1 : wpAny (model prog w) A (eval e env) (PB h₀ L m news s b) E s) (h2:∀ h' tk,Fr h₀ L h' m→News h₀ L h' news→Q (.bool b) { s with heap:=h',toks:=tk }) : wpAny (model prog w) A (eval e env) Q E s :=
  wpAny_mono h1 (fun v s' ⟨e1,h',tk,e2,F,N⟩=>by subst e1 e2;exact h2 h' tk F N) fun _ _ x=>x
theorem PB.of {h₀ h':Heap} {L:Addr} {m:Str→Option Value} {news all:List (Addr×Obj)} {s:Shared} {b c:Bool} {tk:Nat} (F:Fr h₀ L h' m) (N:News h₀ L h' all) (hs:∀ p∈news,p∈all) (e : c=b):PB h₀ L m news s b (.bool c) { s with heap:=h',toks:=tk } :=
  ⟨by rw [e],h',tk,rfl,F,fun p hp=>N p (hs p hp)⟩
inductive Mark:Prop | mk
section
variable {prog : Program} {w : World} {A₀ A : Around} {s : Shared} {base h₀ : Heap} {outer : List Env} {L : Addr} {m mg mb : Str → Option Value} {env : Env} {K : Frag} {p : Program} {loose : List Str} {mean : ExcName → Option Value}
  {name qual:Str} {params:Arguments} {body:List Stmt} {scope:Scope} {dV kV doc pm cdv ct oc:Value} {an od:Option Addr} {osl:Array (Option Value)} {f:Addr} {args:Args} {binds:List (Str×Value)} {mv:List (Addr×Obj)}
noncomputable abbrev gnd (h:Heap) (mv:List (Addr×Obj)):Heap:=hideAll h (mv.map (·.1))
theorem gnd_of {R : Result → Shared → Prop} (B : Below A₀ base outer h₀) (F : Fr h₀ L s.heap m) (N : News h₀ L s.heap mv) (hA : A.frames = some (env :: outer)) (hf : env.frame = some L) (hke : env.scope.kind = .function) :
    Fr h₀ L (gnd s.heap mv) m∧Below A base (env::outer) (gnd s.heap mv)∧h₀.StaysIn (gnd s.heap mv) :=
  let z:=groundX (R:=R) B F N hA hf hke
  ⟨z.1,z.2.1,z.2.2.1⟩
theorem enterM {R : Result → Shared → Prop} (B : Below A₀ base outer h₀) (F : Fr h₀ L s.heap m) (N : News h₀ L s.heap mv) (X₀ : K.In h₀) (T : Top p loose mean mg mb h₀) (hA : A.frames = some (env :: outer)) (hf : env.frame = some L) (hke : env.scope.kind = .function)
    (ho:K.lookup f=some ⟨oc,od,.func (fnOf name qual params body scope dV kV doc pm an cdv ct),osl⟩) (hcd : codeIn K cdv qual=true) (hroom:A.depth < recursionLimit)
    (hbind:BindsTo s (fnOf name qual params body scope dV kV doc pm an cdv ct) args binds) (hloc:∀ y∈binds,scope.names.lookup y.1=some .local)
    (hcell:∀ x∈scope.names,x.2≠.cell) (hco : scope.isCoroutine=false) (hgen : scope.isGenerator=false) (hk : scope.kind=.function)
    (h:∀ g L' h₁,g=gnd s.heap mv→Fr g L' h₁ (fun y=>binds.reverse.lookup y)→News g L' h₁ mv→Below A base (env::outer) g→K.In g→Top p loose mean mg mb g→(∀ p∈mv,p.1 < L')→s.heap.objs.size≤L' →
      wpAny (model prog w) (A.deeper (envOf qual scope L' f cdv)) (execs body (envOf qual scope L' f cdv))
        (fun fl s'=>R (.ok (.ret (match fl with | .ret v=>v | _=>.none))) s')
        (fun e s'=>wpAny (model prog w) (A.deeper (envOf qual scope L' f cdv)) (leaving (envOf qual scope L' f cdv) e) (fun _ s''=>R (.error e) s'') (fun e' s''=>R (.error e') s'') s')
        { s with heap:=h₁,toks:=s.toks+binds.length }) :
    codeAny (model prog w) A (.call (.ref f) args) R s:=by
  obtain ⟨FG,BG,st⟩:=gnd_of (R:=R) B F N hA hf hke
  have hXs:=X₀.keeps F.keep
  have hTs:=T.keeps F.keep
  refine codeAny_call_def (fd:=fnOf name qual params body scope dV kV doc pm an cdv ct) (body:=body) (binds:=binds) hroom (hXs _ _ ho) rfl hTs.nolimit (codeRec_of hXs hcd) rfl hbind hcell hloc (fun h₁ hns hk₁=>?_) hco hgen hk
  exact h _ s.heap.objs.size h₁ rfl ⟨hns, fun b o e => hk₁ b o (of_hideAll _ e), Nat.le_of_eq (hideAll_size _ _)⟩
    (fun p hp=>⟨hk₁ _ _ (N p hp).1,Nat.ne_of_lt (Heap.lt_size (N p hp).1),hideAll_none _ (List.mem_map_of_mem hp)⟩) BG (X₀.keeps st) (T.keeps st) (fun p hp=>Heap.lt_size (N p hp).1) (Nat.le_refl _)
theorem enterCM {R : Result → Shared → Prop} (B : Below A₀ base outer h₀) (F : Fr h₀ L s.heap m) (N : News h₀ L s.heap mv) (X₀ : K.In h₀) (T : Top p loose mean mg mb h₀) (hA : A.frames = some (env :: outer)) (hf : env.frame = some L) (hke : env.scope.kind = .function)
    (ho:K.lookup f=some ⟨oc,od,.func (fnOf name qual params body scope dV kV doc pm an cdv ct),osl⟩) (hcd : codeIn K cdv qual=true) (hroom:A.depth < recursionLimit)
    (hbind:BindsTo s (fnOf name qual params body scope dV kV doc pm an cdv ct) args binds) (hkind:(binds.all fun y=>scope.names.lookup y.1 == some .local || scope.names.lookup y.1 == some .cell)=true)
    (hnd:((cellsFrom 0 scope.names []).map (·.1)).Nodup) (hco : scope.isCoroutine=false) (hgen : scope.isGenerator=false) (hk : scope.kind=.function)
    (h:∀ g L' h₁ tk cells,g=gnd s.heap mv→Fr g L' h₁ (bindL (envOfC qual scope L' f cdv).kindOf binds fun _=>none)→News g L' h₁ (cells++mv) →
      CellsAre (bindC (envOfC qual scope L' f cdv).kindOf binds fun _=>none) (cellsFrom (L'+1) scope.names []) cells→Below A base (env::outer) g→K.In g→Top p loose mean mg mb g→(∀ p∈mv,p.1 < L')→s.heap.objs.size≤L' →
      wpAny (model prog w) (A.deeper (envOfC qual scope L' f cdv)) (execs body (envOfC qual scope L' f cdv))
        (fun fl s'=>R (.ok (.ret (match fl with | .ret v=>v | _=>.none))) s')
        (fun e s'=>wpAny (model prog w) (A.deeper (envOfC qual scope L' f cdv)) (leaving (envOfC qual scope L' f cdv) e) (fun _ s''=>R (.error e) s'') (fun e' s''=>R (.error e') s'') s')
        { s with heap:=h₁,toks:=tk }) :
    codeAny (model prog w) A (.call (.ref f) args) R s:=by
  obtain ⟨FG,BG,st⟩:=gnd_of (R:=R) B F N hA hf hke
  have hXs:=X₀.keeps F.keep
  have hTs:=T.keeps F.keep
  refine codeAny_call_function (fd:=fnOf name qual params body scope dV kV doc pm an cdv ct) (body:=body) hroom (hXs _ _ ho) rfl hco hgen rfl (codeRec_of hXs hcd) (hbind _ _ _ _ ?_)
  refine wpAny_newFunctionEnv_cells hk (kindsX hkind _) fun env' he s' x=>?_
  subst he
  refine ⟨hTs.nolimit.keeps x.toInCall.keep,codeAny_func ?_⟩
  obtain ⟨h₁,tk,rfl,_⟩:=x.done
  have hk₁:=x.toInCall.keep
  obtain ⟨cells,NC,Y⟩:=Cl.news (h₀:=gnd s.heap mv) (Nat.le_of_eq (hideAll_size _ _)) fun n c hm=>⟨x.cell n c (lookup_of_mem_nodup (cellsFrom_names scope.names 0 (s.heap.objs.size+1) [] [] rfl ▸ hnd) hm),x.above n c hm⟩
  refine h _ s.heap.objs.size h₁ tk cells rfl ⟨x.toInCall.ns,fun b o e=>hk₁ b o (of_hideAll _ e),Nat.le_of_eq (hideAll_size _ _)⟩ (fun q hq=>?_) Y BG (X₀.keeps st) (T.keeps st) (fun p hp=>Heap.lt_size (N p hp).1) (Nat.le_refl _)
  rcases List.mem_append.mp hq with hq | hq
  · exact NC q hq
  · exact ⟨hk₁ _ _ (N q hq).1,Nat.ne_of_lt (Heap.lt_size (N q hq).1),hideAll_none _ (List.mem_map_of_mem hq)⟩
end
noncomputable def MvOut (g h':Heap) (mv':List (Addr×Obj)):Prop:=∀ p∈mv',h'.get? p.1=some p.2∧g.get? p.1=none
noncomputable def sM (f:Addr) (D:Nat) (vs:List Value) (Pre:Heap→Prop) (Post:Heap→Value→Heap→Prop) (O O':List (Addr×Obj)→Prop):Prop :=
  ∀ {prog:Program} {w:World} {p:Program} {loose:List Str} {mean:ExcName→Option Value} {mg mb:Str→Option Value} {A:Around} {env:Env} {outer:List Env} {A₀:Around} {base h₀:Heap} {L:Addr} {m:Str→Option Value} {s:Shared} {Q E:Value→Shared→Prop} {mv:List (Addr×Obj)},
    Below A₀ base outer h₀→Fr h₀ L s.heap m→News h₀ L s.heap mv→O mv→(hd.heap_1 w.params).In h₀→Top p loose mean mg mb h₀ →
    A.handled=none→A.frames=some (env::outer)→env.frame=some L→env.scope.kind=.function→A.depth+D < 500→A.units+10*D < 5000→Pre (gnd s.heap mv) →
    (∀ v h' tk' mv',(gnd s.heap mv).StaysIn h'→s.heap.objs.size≤h'.objs.size→MvOut (gnd s.heap mv) h' mv'→O' mv'→Post (gnd s.heap mv) v h'→Q v { s with heap:=h',toks:=tk' }) →
    wpAny (model prog w) A (call (.ref f) vs) Q E s
noncomputable def SpecMB (f:Addr) (D:Nat) (vs:List Value) (Pre:Heap→Prop) (Post:Heap→Value→Heap→Prop) (O O':List (Addr×Obj)→Prop) (c:CtxQ):Prop :=
    Below c.A₀ c.base c.outer c.h₀→Fr c.h₀ c.L c.s.heap c.m→News c.h₀ c.L c.s.heap c.mv→O c.mv→(hd.heap_1 c.w.params).In c.h₀→Top c.p c.loose c.mean c.mg c.mb c.h₀ →
    c.env.frame=some c.L→c.env.scope.kind=.function→c.dp+D < 500→c.un+10*D < 5000→Pre (gnd c.s.heap c.mv) →
    (∀ v h' tk' mv',(gnd c.s.heap c.mv).StaysIn h'→c.s.heap.objs.size≤h'.objs.size→MvOut (gnd c.s.heap c.mv) h' mv'→O' mv'→Post (gnd c.s.heap c.mv) v h'→c.Q v { c.s with heap:=h',toks:=tk' }) →
    wpAny (model c.prog c.w) ⟨none,c.dp,some (c.env::c.outer),c.gd,c.un⟩ (call (.ref f) vs) c.Q c.E c.s
theorem ctxM {f : Addr} {D : Nat} {vs : List Value} {Pre : Heap → Prop} {Post : Heap → Value → Heap → Prop} {O O' : List (Addr × Obj) → Prop} (h :
    Below (pick neC (SpecMB f D vs Pre Post O O')).A₀ (pick neC (SpecMB f D vs Pre Post O O')).base (pick neC (SpecMB f D vs Pre Post O O')).outer (pick neC (SpecMB f D vs Pre Post O O')).h₀→Fr (pick neC (SpecMB f D vs Pre Post O O')).h₀ (pick neC (SpecMB f D vs Pre Post O O')).L (pick neC (SpecMB f D vs Pre Post O O')).s.heap (pick neC (SpecMB f D vs Pre Post O O')).m→News (pick neC (SpecMB f D vs Pre Post O O')).h₀ (pick neC (SpecMB f D vs Pre Post O O')).L (pick neC (SpecMB f D vs Pre Post O O')).s.heap (pick neC (SpecMB f D vs Pre Post O O')).mv→O (pick neC (SpecMB f D vs Pre Post O O')).mv→(hd.heap_1 (pick neC (SpecMB f D vs Pre Post O O')).w.params).In (pick neC (SpecMB f D vs Pre Post O O')).h₀→Top (pick neC (SpecMB f D vs Pre Post O O')).p (pick neC (SpecMB f D vs Pre Post O O')).loose (pick neC (SpecMB f D vs Pre Post O O')).mean (pick neC (SpecMB f D vs Pre Post O O')).mg (pick neC (SpecMB f D vs Pre Post O O')).mb (pick neC (SpecMB f D vs Pre Post O O')).h₀ →
    (pick neC (SpecMB f D vs Pre Post O O')).env.frame=some (pick neC (SpecMB f D vs Pre Post O O')).L→(pick neC (SpecMB f D vs Pre Post O O')).env.scope.kind=.function→(pick neC (SpecMB f D vs Pre Post O O')).dp+D < 500→(pick neC (SpecMB f D vs Pre Post O O')).un+10*D < 5000→Pre (gnd (pick neC (SpecMB f D vs Pre Post O O')).s.heap (pick neC (SpecMB f D vs Pre Post O O')).mv) →
    (∀ v h' tk' mv',(gnd (pick neC (SpecMB f D vs Pre Post O O')).s.heap (pick neC (SpecMB f D vs Pre Post O O')).mv).StaysIn h'→(pick neC (SpecMB f D vs Pre Post O O')).s.heap.objs.size≤h'.objs.size→MvOut (gnd (pick neC (SpecMB f D vs Pre Post O O')).s.heap (pick neC (SpecMB f D vs Pre Post O O')).mv) h' mv'→O' mv'→Post (gnd (pick neC (SpecMB f D vs Pre Post O O')).s.heap (pick neC (SpecMB f D vs Pre Post O O')).mv) v h'→(pick neC (SpecMB f D vs Pre Post O O')).Q v { (pick neC (SpecMB f D vs Pre Post O O')).s with heap:=h',toks:=tk' }) →
    wpAny (model (pick neC (SpecMB f D vs Pre Post O O')).prog (pick neC (SpecMB f D vs Pre Post O O')).w) ⟨none,(pick neC (SpecMB f D vs Pre Post O O')).dp,some ((pick neC (SpecMB f D vs Pre Post O O')).env::(pick neC (SpecMB f D vs Pre Post O O')).outer),(pick neC (SpecMB f D vs Pre Post O O')).gd,(pick neC (SpecMB f D vs Pre Post O O')).un⟩ (call (.ref f) vs) (pick neC (SpecMB f D vs Pre Post O O')).Q (pick neC (SpecMB f D vs Pre Post O O')).E (pick neC (SpecMB f D vs Pre Post O O')).s):sM f D vs Pre Post O O':=by
  have h2:∀ c,SpecMB f D vs Pre Post O O' c:=pickI (n:=neC) h
  intros prog w p loose mean mg mb A env outer A₀ base h₀ L m s Q E mv B F Nm hO X T hhd hA hf hke hdp hun hpre hret
  obtain ⟨hd0,dp,fr,gd,un⟩:=A
  dsimp only at hhd hA hdp hun;subst hhd hA
  exact h2 ⟨prog,w,p,loose,mean,mg,mb,env,outer,A₀,base,h₀,L,m,s,Q,E,dp,gd,un,mv⟩ B F Nm hO X T hf hke hdp hun hpre hret
section
variable {h₀ h h':Heap} {L:Addr} {m:Str→Option Value} {mv mv' rest:List (Addr×Obj)}
theorem frM (F:Fr h₀ L h m) (N:News h₀ L h mv) (st:(gnd h mv).StaysIn h'):Fr h₀ L h' m:=by
  have nm:∀ b o,h₀.get? b=some o→b ∉ mv.map (·.1):=fun b o e q=>by
    obtain ⟨p,hp,rfl⟩:=List.mem_map.mp q
    rw [(N p hp).2.2] at e;cases e
  have nL:L ∉ mv.map (·.1):=fun q=>by
    obtain ⟨p,hp,e⟩:=List.mem_map.mp q
    exact (N p hp).2.1 e
  exact ⟨F.ns.at' fun o e=>st _ _ (hideAll_get _ e nL),fun b o e=>st _ _ (hideAll_get _ (F.keep b o e) (nm b o e)),F.above⟩
noncomputable def OffMv (mv : List (Addr × Obj)) : List (Addr × Obj) → Prop
  | []=>True
  | q::r=>AllNe q.1 mv∧OffMv mv r
theorem allNe_mem {d : Addr} : ∀ {l : List (Addr × Obj)}, AllNe d l → d ∉ l.map (·.1)
  | [],_,h=>by cases h
  | p::r,x,h=>by
    rcases List.mem_cons.mp h with e | h
    · exact x.1 e.symm
    · exact allNe_mem x.2 h
theorem offMv_mem (x:OffMv mv rest):∀ q∈rest,q.1 ∉ mv.map (·.1):=by
  induction rest with
  | nil=>intros q hq;exact absurd hq List.not_mem_nil
  | cons a r ih =>
    obtain ⟨x1,x2⟩:=x
    intros q hq
    rcases List.mem_cons.mp hq with e | hq
    · rw [e];exact allNe_mem x1
    · exact ih x2 q hq
theorem newsM (F:Fr h₀ L h m) (Nm:News h₀ L h mv) (N:News h₀ L h rest) (off:OffMv mv rest) (st:(gnd h mv).StaysIn h') (out:MvOut (gnd h mv) h' mv'):News h₀ L h' (mv'++rest):=fun p hp=>by
  rcases List.mem_append.mp hp with hp | hp
  · have z := out p hp
    have nm:∀ b o,h₀.get? b=some o→b ∉ mv.map (·.1):=fun b o e q=>by
      obtain ⟨p,hp,rfl⟩:=List.mem_map.mp q
      rw [(Nm p hp).2.2] at e;cases e
    refine ⟨z.1,fun q=>?_,?_⟩
    · obtain ⟨oL, _, _, e, _⟩ := F.ns
      have nL:L ∉ mv.map (·.1):=fun q=>by
        obtain ⟨p,hp,e⟩:=List.mem_map.mp q
        exact (Nm p hp).2.1 e
      have:=hideAll_get _ e nL
      rw [← q,z.2] at this;cases this
    · cases q : h₀.get? p.1 with
      | none=>rfl
      | some x =>
        have:=hideAll_get _ (F.keep _ _ q) (nm _ _ q)
        rw [z.2] at this;cases this
  · exact ⟨st _ _ (hideAll_get _ (N p hp).1 (offMv_mem off p hp)),(N p hp).2⟩
theorem neM {d : Addr} (hd : (gnd h mv).get? d = none) : ∀ {rest : List (Addr × Obj)}, News h₀ L h rest → OffMv mv rest → AllNe d rest
  | [],_,_=>trivial
  | p::r,N,off=>⟨(fun q=>by have:=hideAll_get _ (N p (.head _)).1 (offMv_mem off p (.head _));rw [q,hd] at this;cases this),neM hd (fun q hq=>N q (.tail _ hq)) off.2⟩
theorem mvOut_of {all:List (Addr×Obj)} {g:Heap} (N:News g L h' all) (hs:∀ p∈mv',p∈all):MvOut g h' mv':=fun p hp=>⟨(N p (hs p hp)).1,(N p (hs p hp)).2.2⟩
end
inductive TabSt (P : Addr) (l k : Nat) (qual : Str) : Obj → Addr → Obj → Prop
  | none:TabSt P l k qual (tabObj #[]) P (tabObj #[])
  | full {c':Addr} {oc:Obj} {vs:Array Value} {t:Tok} (h1 : oc.data=.fields vs) (h2 : vs[1]?=some (.str qual t)):TabSt P l k qual (tabObj #[rawInt l,rawInt k,.ref c']) c' oc
@[elab_as_elim] theorem tabE {P:Addr} {l k:Nat} {qual:Str} {G:Obj→Addr→Obj→Prop} {o:Obj} {c:Addr} {oc:Obj} (h:TabSt P l k qual o c oc) (none:G (tabObj #[]) P (tabObj #[])) (full:∀ c' oc vs t,oc.data=.fields vs→vs[1]?=some (.str qual t)→G (tabObj #[rawInt l,rawInt k,.ref c']) c' oc):G o c oc:=by
  cases h with
  | none=>exact none
  | full h1 h2=>exact full _ _ _ _ h1 h2
noncomputable def Tab1 (P:Addr) (l k:Nat) (qual:Str) (mv:List (Addr×Obj)):Prop:=∃ o c' oc,mv=[(P,o),(c',oc)]∧TabSt P l k qual o c' oc
theorem tabOut {g h' : Heap} {L : Addr} {all : List (Addr × Obj)} {P c' : Addr} {l k : Nat} {qual : Str} {oc : Obj} {vs : Array Value} {t : Tok} {C : Prop} (N : News g L h' all) (m1 : (P, tabObj (#[] ++ #[rawInt l, rawInt k, .ref c'])) ∈ all) (m2 : (c', oc) ∈ all) (h1 : oc.data = .fields vs) (h2 : vs[1]? = some (.str qual t))
    (x:∀ mv',MvOut g h' mv'→Tab1 P l k qual mv'→C):C :=
  x [(P,tabObj (#[]++#[rawInt l,rawInt k,.ref c'])),(c',oc)] (fun p hp=>by
    rcases List.mem_cons.mp hp with rfl | hp
    · exact ⟨(N _ m1).1,(N _ m1).2.2⟩
    · rw [List.mem_singleton.mp hp];exact ⟨(N _ m2).1,(N _ m2).2.2⟩) ⟨_,_,_,rfl,.full h1 h2⟩
inductive Sift (mv : List (Addr × Obj)) : List (Addr × Obj) → List (Addr × Obj) → Prop
  | nil:Sift mv [] []
  | keep {q:Addr×Obj} {all rest:List (Addr×Obj)} (h:AllNe q.1 mv) (r:Sift mv all rest):Sift mv (q::all) (q::rest)
  | drop {q:Addr×Obj} {all rest:List (Addr×Obj)} (r:Sift mv all rest):Sift mv (q::all) rest
noncomputable def NeAll : List (Addr × Obj) → List (Addr × Obj) → Prop
  | [],_=>True
  | p::r,rest=>AllNe p.1 rest∧NeAll r rest
section
variable {mv mv' all rest:List (Addr×Obj)} {h₀ h h':Heap} {L:Addr} {m:Str→Option Value}
theorem siftSub (S:Sift mv all rest):∀ q∈rest,q∈all:=by
  induction S with
  | nil=>intros q hq;exact hq
  | keep _ _ ih => intros q hq; rcases List.mem_cons.mp hq with rfl | hq
                   · exact .head _
                   · exact .tail _ (ih q hq)
  | drop _ ih=>intros q hq;exact .tail _ (ih q hq)
theorem siftOff (S:Sift mv all rest):OffMv mv rest:=by
  induction S with
  | nil=>exact trivial
  | keep h _ ih=>exact ⟨h,ih⟩
  | drop _ ih=>exact ih
theorem nsO (N:News h₀ L h all) (hs:∀ p∈mv,p∈all):News h₀ L h mv:=fun p hp=>N p (hs p hp)
theorem neAllOf {g:Heap} (hg : g=gnd h mv) (N:News h₀ L h rest) (off:OffMv mv rest) (out:MvOut g h' mv'):NeAll mv' rest:=by
  induction mv' with
  | nil=>exact trivial
  | cons p r ih=>exact ⟨neM (by rw [← hg];exact (out p (.head _)).2) N off,ih fun q hq=>out q (.tail _ hq)⟩
theorem afterM {C : Prop} (F : Fr h₀ L h m) (N : News h₀ L h all) (hs : ∀ p ∈ mv, p ∈ all) (S : Sift mv all rest) (st : (gnd h mv).StaysIn h') (out : MvOut (gnd h mv) h' mv')
    (k:Fr h₀ L h' m→News h₀ L h' (mv'++rest)→NeAll mv' rest→C):C :=
  have Nr:=nsO N (siftSub S)
  k (frM F (nsO N hs) st) (newsM F (nsO N hs) Nr (siftOff S) st out) (neAllOf rfl Nr (siftOff S) out)
theorem MvOut.cons {g:Heap} {a:Addr} {o:Obj} (h1 : g.get? a=none) (h2 : h'.get? a=some o) (out:MvOut g h' mv'):MvOut g h' ((a,o)::mv'):=fun p hp=>by
  rcases List.mem_cons.mp hp with rfl | hp
  · exact ⟨h2,h1⟩
  · exact out p hp
theorem neObj {a b:Addr} {o o2:Obj} (N:News h₀ L h all) (m1:(a,o)∈all) (m2:(b,o2)∈all) (x : o≠o2) : @Ne Nat a b:=fun e=>by
  subst e
  exact x (Option.some.inj ((N _ m1).1.symm.trans (N _ m2).1))
theorem tabNe {P P' c c' : Addr} {l k l' k' : Nat} {q q' : Str} {o oc o' oc' : Obj} (s1 : TabSt P l k q o c oc) (s2 : TabSt P' l' k' q' o' c' oc') (N : News h₀ L h all)
    (m1:(P,o)∈all) (m2:(c,oc)∈all) (m3:(P',o')∈all) (m4:(c',oc')∈all) (hP : @Ne Nat P P') (hq : q≠q'):(@Ne Nat P c')∧(@Ne Nat c P')∧(@Ne Nat c c'):=by
  have key:∀ {P:Addr} {l k:Nat} {ps:Array Value} {oc:Obj} {vs:Array Value} {q:Str} {t:Tok},oc.data=.fields vs→vs[1]?=some (.str q t)→(ps=#[]∨∃ c:Addr,ps=#[rawInt l,rawInt k,.ref c])→tabObj ps≠oc:=by
    intros P l k ps oc vs q t h1 h2 h3 e
    subst e
    simp only [Data.fields.injEq] at h1
    subst h1
    rcases h3 with rfl | ⟨c,rfl⟩
    · simp at h2
    · simp [rawInt] at h2
  cases s1 with
  | none =>
    cases s2 with
    | none=>exact ⟨hP,hP,hP⟩
    | full h1 h2 =>
      have z:=neObj N m1 m4 (key (P:=P) (l:=0) (k:=0) h1 h2 (.inl rfl))
      exact ⟨z,hP,z⟩
  | full h1 h2 =>
    cases s2 with
    | none =>
      have z:=neObj N m3 m2 (key (P:=P) (l:=0) (k:=0) h1 h2 (.inl rfl))
      exact ⟨hP,z.symm,z.symm⟩
    | full h3 h4 =>
      refine ⟨neObj N m1 m4 (key (P:=P) h3 h4 (.inr ⟨_,rfl⟩)),(neObj N m3 m2 (key (P:=P) h1 h2 (.inr ⟨_,rfl⟩))).symm,neObj N m2 m4 fun e=>?_⟩
      subst e
      rw [h1] at h3
      cases h3
      rw [h2] at h4
      cases h4
      exact hq rfl
end
theorem specM_mono {f:Addr} {D:Nat} {vs:List Value} {Pre:Heap→Prop} {Post Post':Heap→Value→Heap→Prop} {O O':List (Addr×Obj)→Prop} (x:sM f D vs Pre Post O O') (k:∀ g v h',Post g v h'→Post' g v h'):sM f D vs Pre Post' O O':=by
  intros prog w p loose mean mg mb A env outer A₀ base h₀ L m s Q E mv B F Nm hO X T c1 c2 c3 c4 d u hp hret
  exact x B F Nm hO X T c1 c2 c3 c4 d u hp fun v h' tk' mv' a b c d e=>hret v h' tk' mv' a b c d (k _ _ _ e)
noncomputable def lstO (its:Array Value) (n:Nat):Obj:={ cls:=.type "list",data:=.seq its n }
noncomputable def PL0:Heap→Value→Heap→Prop:=PNew fun o=>∃ n,o={ cls:=.type "list",data:=.seq #[] n }
noncomputable def PL1 (x:Int):Heap→Value→Heap→Prop:=PNew fun o=>∃ n t1,o={ cls:=.type "list",data:=.seq #[.int x t1] n }
noncomputable def PL2 (x y:Int):Heap→Value→Heap→Prop:=PNew fun o=>∃ n t1 t2,o={ cls:=.type "list",data:=.seq #[.int x t1,.int y t2] n }
noncomputable def PL3 (x y z:Int):Heap→Value→Heap→Prop:=PNew fun o=>∃ n t1 t2 t3,o={ cls:=.type "list",data:=.seq #[.int x t1,.int y t2,.int z t3] n }
example:True:=by
  k_with "oeqN"=>apply Lx.l165<;>assumption
  k_with "oeqI"=>apply Lx.l72<;>assumption
  k_with "oltN"=>apply Lx.l336<;>assumption
  k_with "oeqI"=>apply Lx.l256
  k_with "oleN"=>apply Lx.l293<;>assumption
  k_with "of"=>apply Lx.l355<;>assumption
  k_with "of"=>apply Lx.l501<;>assumption
  k_with "oeqI"=>apply Lx.l298<;>assumption
  k_with "oleI"=>apply Lx.l337<;>assumption
  k_with "oleN"=>apply Lx.l206<;>assumption
  k_with "oeqI"=>apply Lx.l238<;>assumption
  trivial
theorem hiAnd (x k:Nat) : x &&& (x / 2 ^ k*2 ^ k)=x / 2 ^ k*2 ^ k:=by
  apply Nat.eq_of_testBit_eq
  intros i
  rw [Nat.testBit_and,← Nat.shiftRight_eq_div_pow,← Nat.shiftLeft_eq,Nat.testBit_shiftLeft,Nat.testBit_shiftRight]
  by_cases h : i ≥ k
  · have : k + (i - k) = i := by omega
    simp [h,this]
  · simp [h]
theorem hiOr (x k:Nat) : x ||| (x / 2 ^ k*2 ^ k)=x:=by
  apply Nat.eq_of_testBit_eq
  intros i
  rw [Nat.testBit_or,← Nat.shiftRight_eq_div_pow,← Nat.shiftLeft_eq,Nat.testBit_shiftLeft,Nat.testBit_shiftRight]
  by_cases h : i ≥ k
  · have : k + (i - k) = i := by omega
    simp [h,this]
  · simp [h]
theorem xorLowN (x:Nat):Builtin.bitXor (x:Int) ((x / 2 ^ 10*2 ^ 10:Nat):Int)=((x % 1024:Nat):Int):=by
  have e1:Builtin.bitAnd (x:Int) ((x / 2 ^ 10*2 ^ 10:Nat):Int)=((x / 2 ^ 10*2 ^ 10:Nat):Int):=by
    unfold Builtin.bitAnd
    simp only [Int.natCast_nonneg,decide_true,Int.toNat_natCast]
    rw [hiAnd]
  have e2:Builtin.bitOr (x:Int) ((x / 2 ^ 10*2 ^ 10:Nat):Int)=(x:Int):=by
    have f:∀ n:Nat,decide (0≤Builtin.bitNot (n:Int))=false:=fun n=>decide_eq_false (by unfold Builtin.bitNot;omega)
    have g:∀ n:Int,Builtin.bitNot (Builtin.bitNot n)=n:=fun n=>by unfold Builtin.bitNot;omega
    unfold Builtin.bitOr Builtin.bitAnd
    rw [f,f]
    simp only [g,Int.toNat_natCast]
    rw [hiOr]
  unfold Builtin.bitXor
  rw [e1,e2]
  omega
theorem fdiv1024 (x:Nat):Int.fdiv (x:Int) (2 ^ 10)=((x / 1024:Nat):Int):=by rw [Int.fdiv_eq_ediv_of_nonneg _ (by decide)];rfl
theorem xorLow (x:Nat):Builtin.bitXor (x:Int) (Int.fdiv (x:Int) (2 ^ 10)*2 ^ 10)=((x % 1024:Nat):Int):=by
  rw [fdiv1024,← xorLowN];rfl
theorem bits_of {x k:Nat} (h1 : 2 ^ k≤x) (h2 : x < 2 ^ (k+1)):Builtin.Int.intBits (x:Int)=k+1:=by
  have hx : x≠0:=by have:=Nat.two_pow_pos k;omega
  unfold Builtin.Int.intBits
  have e:((x:Int) == 0)=false:=by simp;omega
  rw [e]
  simp only [Bool.false_eq_true,if_false,Int.natAbs_natCast]
  have : x.log2=k:=(Nat.log2_eq_iff hx).mpr ⟨h1,h2⟩
  rw [this]
theorem bits_le {x k:Nat} (h2 : x < 2 ^ k):Builtin.Int.intBits (x:Int)≤k:=by
  unfold Builtin.Int.intBits
  by_cases hx : x=0
  · subst hx;simp
  · have e : ((x : Int) == 0) = false := by simp; omega
    rw [e]
    simp only [Bool.false_eq_true,if_false,Int.natAbs_natCast]
    have:=(Nat.log2_lt hx).mpr h2
    omega
theorem bits_ge {x k:Nat} (h1 : 2 ^ k≤x) : k+1≤Builtin.Int.intBits (x:Int):=by
  have hx : x≠0:=by have:=Nat.two_pow_pos k;omega
  unfold Builtin.Int.intBits
  have e:((x:Int) == 0)=false:=by simp;omega
  rw [e]
  simp only [Bool.false_eq_true,if_false,Int.natAbs_natCast]
  have:=(Nat.le_log2 hx).mpr h1
  omega
noncomputable def dig (a:Nat):List Int:=if a=0 then [] else if a < 1024 then [(a:Int)] else if a < 1048576 then [((a % 1024:Nat):Int),((a / 1024:Nat):Int)] else [((a % 1024:Nat):Int),((a / 1024 % 1024:Nat):Int),((a / 1024 / 1024:Nat):Int)]
theorem cnt1 {a:Nat} (h0 : 1≤a) (h : a < 1024):(((Builtin.Int.intBits (a:Int):Nat):Int)+10 - 1).fdiv 10=1:=by
  have h1:=bits_ge (k:=0) h0
  have h2:=bits_le (k:=10) h
  rw [Int.fdiv_eq_ediv_of_nonneg _ (by decide)];omega
theorem cnt2 {a:Nat} (h0 : 1024≤a) (h : a < 1048576):(((Builtin.Int.intBits (a:Int):Nat):Int)+10 - 1).fdiv 10=2:=by
  have h1:=bits_ge (k:=10) h0
  have h2:=bits_le (k:=20) h
  rw [Int.fdiv_eq_ediv_of_nonneg _ (by decide)];omega
theorem cnt3 {a:Nat} (h0 : 1048576≤a) (h : a < 1073741824):(((Builtin.Int.intBits (a:Int):Nat):Int)+10 - 1).fdiv 10=3:=by
  have h1:=bits_ge (k:=20) h0
  have h2:=bits_le (k:=30) h
  rw [Int.fdiv_eq_ediv_of_nonneg _ (by decide)];omega
theorem xorLow2 (a:Nat):Builtin.bitXor (Int.fdiv (a:Int) (2 ^ 10)) (Int.fdiv (Int.fdiv (a:Int) (2 ^ 10)) (2 ^ 10)*2 ^ 10)=((a / 1024 % 1024:Nat):Int):=by rw [fdiv1024];exact xorLow _
theorem fdiv2 (a:Nat):Int.fdiv (Int.fdiv (a:Int) (2 ^ 10)) (2 ^ 10)=((a / 1024 / 1024:Nat):Int):=by rw [fdiv1024,fdiv1024]
theorem ints1 {x X:Int} {t:Tok} (e1 : x=X):IntsAre [.int x t] [X]:=e1 ▸ .cons _ _ .nil
theorem ints2 {x y X Y:Int} {t u:Tok} (e1 : x=X) (e2 : y=Y):IntsAre [.int x t,.int y u] [X,Y]:=e1 ▸ e2 ▸ .cons _ _ (.cons _ _ .nil)
theorem ints3 {x y z X Y Z:Int} {t u v:Tok} (e1 : x=X) (e2 : y=Y) (e3 : z=Z):IntsAre [.int x t,.int y u,.int z v] [X,Y,Z]:=e1 ▸ e2 ▸ e3 ▸ .cons _ _ (.cons _ _ (.cons _ _ .nil))
theorem shl_ok {v:Int} (h0 : 0≤v) (h : v < 1048576):(Builtin.Int.intBits v:Int)+10≤2 ^ 27:=by
  obtain ⟨n,rfl⟩:=Int.eq_ofNat_of_zero_le h0
  have:=bits_le (x:=n) (k:=20) (by omega)
  omega
section
variable {M : Model} {A : Around} {E : Value → Shared → Prop} {s : Shared} {h₀ : Heap} {L a c P cP : Addr} {m mg mb : Str → Option Value} {cn : Str} {cs : Scope} {ccd : Value} {cl : List (Str × Addr)} {pre : List (Addr × Obj)} {o ocP : Obj} {l k : Nat}
  {p:Program} {loose:List Str} {mean:ExcName→Option Value} {name qual:Str} {params:Arguments} {body:List Stmt} {scope:Scope} {pos:Pos} {firstLine:Nat} {clos:List (Str×Addr)}
theorem updPre {o : Obj} : ∀ {pre : List (Addr × Obj)}, (∀ q ∈ pre, q.1 ≠ P) → UpdF P o (pre ++ [(P, o)]) (fun o' => pre ++ [(P, o')])
  | [],_=>.head fun _ h=>nomatch h
  | q::r,h=>.tail (h q (.head _)) (updPre fun x hx=>h x (.tail _ hx))
theorem nestTab {Q : Value → Shared → Prop} (F : Fr h₀ L s.heap m) (N : News h₀ L s.heap (pre ++ [(P, o), (cP, ocP)])) (T : Top p loose mean mg mb h₀) (C : CodeHd h₀ c P) (hst : TabSt P l k qual o cP ocP) (hoff : ∀ q ∈ pre, q.1 ≠ P ∧ q.1 ≠ cP)
    (hcd : ccd=.ref c) (hp1 : pos.line=l) (hp2 : pos.col=k) (hcl : closureFor scope (envX cn cs L a ccd cl)=pure clos)
    (h:∀ f c' oc vs t ctv doc h' tk,Fr h₀ L h' m →
      News h₀ L h' ((f,fnMade name qual params body scope clos doc ((mg "__name__").getD .none) c' ctv)::(pre++[(P,tabObj #[rawInt l,rawInt k,.ref c']),(c',oc)])) →
      oc.data=.fields vs→vs[1]?=some (.str qual t)→(∀ q∈pre,q.1 < f∧q.1≠c')→c' < f∧P < f→Q (.ref f) { s with heap:=h',toks:=tk }) :
    wpAny M A (makeFunction name qual params (.stmts body) scope (envX cn cs L a ccd cl) [] [] [] pos firstLine) Q E s:=by
  subst hp1 hp2
  have hm:∀ {x y:Addr×Obj} {pre:List (Addr×Obj)},x∈pre++[x,y]∧y∈pre++[x,y]:=⟨List.mem_append_right _ (.head _),List.mem_append_right _ (.tail _ (.head _))⟩
  cases hst with
  | none =>
    have N0:News h₀ L s.heap (pre++[(P,tabObj #[])]):=fun q hq=>N q (by
      rcases List.mem_append.mp hq with hq | hq
      · exact List.mem_append_left _ hq
      · rw [List.mem_singleton.mp hq];exact hm.1)
    refine nest_K F N0 T C hcd (updPre fun q hq=>(hoff q hq).1) True.intro rfl hcl fun f c' oc vs t ctv doc h' tk F' N' d1 d2 l1 l2=>?_
    refine h f c' oc vs t ctv doc h' tk F' (fun q hq=>N' q ?_) d1 d2 (fun q hq=>have l:=l1 q (List.mem_append_left _ hq);⟨Nat.lt_trans l l2,Nat.ne_of_lt l⟩) ⟨l2,Nat.lt_trans (l1 (P,tabObj #[]) (List.mem_append_right _ (.head _))) l2⟩
    rcases List.mem_cons.mp hq with e | hq
    · rw [e];exact .head _
    · rcases List.mem_append.mp hq with hq | hq
      · exact .tail _ (.tail _ (List.mem_append_left _ hq))
      · rcases List.mem_cons.mp hq with e | hq
        · rw [e];exact .tail _ (.tail _ (List.mem_append_right _ (.head _)))
        · rw [List.mem_singleton.mp hq];exact .tail _ (.head _)
  | full d1 d2 =>
    refine nestHit_K F N T C hcd hm.1 True.intro (by show (if _ then _ else _)=_;rw [if_pos (by simp)]) hcl fun f ctv doc h' tk F' N' l1=>?_
    exact h f _ _ _ _ ctv doc h' tk F' N' d1 d2 (fun q hq=>⟨l1 q (List.mem_append_left _ hq),(hoff q hq).2⟩) ⟨l1 _ hm.2,l1 _ hm.1⟩
end
example:True:=by
  k_with "oleI"=>apply Lx.l239<;>assumption
  k_with "oltN"=>apply Lx.l341<;>assumption
  k_with "oltI"=>apply Lx.l169<;>assumption
  k_with "oleI"=>apply Lx.l330
  k_with "oand"=>apply Lx.l87<;>assumption
  k_with "oand"=>apply Lx.l209
  k_with "oleI"=>apply Lx.l433
  k_with "oleI"=>apply Lx.l526<;>assumption
  k_with "oleI"=>apply Lx.l505
  k_with "oand"=>apply Lx.l332<;>assumption
  k_with "oleI"=>apply Lx.l572
  k_with "oltI"=>apply Lx.l449<;>assumption
  trivial
theorem bits1000:((Builtin.Int.intBits 1000:Nat):Int)=10:=by
  have:=bits_of (x:=1000) (k:=9) (by decide) (by decide)
  show ((Builtin.Int.intBits ((1000:Nat):Int):Nat):Int)=10
  rw [this];rfl
structure DivZ (v q r : Int) : Prop where
  all : 1000*q+r≤v∧v≤1000*q+r∧0≤r∧r≤999∧0≤q∧q < 1024
noncomputable def PDm (v:Int):Heap→Value→Heap→Prop:=PNew fun o=>∃ q r t1 t2,DivZ v q r∧(0≤r∧r≤999)∧o={ cls:=.type "tuple",data:=.seq #[.int q t1,.int r t2] }
noncomputable def div2n1n_S (v:Int) (t u w':Tok):Prop:=∀ (h0 : 0≤v∧v < 1024000),sP 91 2 [.int v t,.int 1000 u,.int 10 w'] nPr (PDm v)
theorem div2n1n_P:∀ (v:Int) (t u w':Tok),div2n1n_S v t u w':=by
  intro v t u w'
  intros h0
  have hc:Fct (decide ((Builtin.Int.intBits v:Int) - 10≤4000)=true):=⟨decide_eq_true (by have:=shl_ok h0.1 (by omega : v < 1048576);((first | refine exE (Int.eq_ofNat_of_zero_le h0.1) ?_ | refine aE (Int.eq_ofNat_of_zero_le h0.1) ?_);intro n;intro zo1;subst zo1);have:=bits_le (x:=n) (k:=20) (by omega);omega)⟩
  k_extra "r1"
  intros B F X T hf hke hdp hun hpre hret
  refine wpAny_call ?_
  k_dflt refine' enterP (binds:=[(ofString "a",.int v t),(ofString "b",.int 1000 u),(ofString "n",.int 10 w')]) B F X T rfl hf hke ?k6 ?k7 ?k8 ?k9 ?kB ?c5 ?c2 ?c3 ?c4 ?_
  walk_at "m_fill"
  clear F X T B hf hke
  intro L' h₁ F N B X T;(try dsimp only)
  k_steps
  all_goals (rename Fr _ _ _ _=>F9);refine hret _ _ _ F9.keep (Nat.le_trans F9.above (Nat.le_of_lt F9.ns.lt)) ?_
  (rename News _ _ _ _=>N9)
  (replace N9:=N9;rw [Int.fdiv_eq_ediv_of_nonneg v (by decide:(0:Int)≤1000),Int.fmod_eq_emod_of_nonneg v (by decide:(0:Int)≤1000)] at N9)
  exact pnew_of N9 (.head _) ⟨_,_,_,_,⟨by omega,by omega,by omega,by omega,by omega,by omega⟩,by omega,rfl⟩
theorem div2n1n:∀ (v:Int) (t u w':Tok) (h0 : 0≤v∧v < 1024000),sP 91 2 [.int v t,.int 1000 u,.int 10 w'] nPr (PDm v):=fun v t u w' h0=>div2n1n_P v t u w' h0
theorem dvA {x:Nat} (h : x < 1024) : 0≤0*(2:Int) ^ Int.toNat 10+(x:Int)∧0*(2:Int) ^ Int.toNat 10+(x:Int) < 1024000:=by simp only [Int.reduceToNat,Int.reducePow];omega
theorem dvB {v q r:Int} {x:Nat} (z:DivZ v q r) : 0≤r*(2:Int) ^ Int.toNat 10+((x % 1024:Nat):Int)∧r*(2:Int) ^ Int.toNat 10+((x % 1024:Nat):Int) < 1024000:=by
  obtain ⟨z⟩:=z;simp only [Int.reduceToNat,Int.reducePow];omega
theorem dvQ {v q r:Int} (z:DivZ v q r) : 0≤q∧q < 1024:=z.1.2.2.2.2
theorem dq1 {a:Nat} {q r:Int} (z:DivZ (0*(2:Int) ^ Int.toNat 10+(a:Int)) q r) : q=((a / 1000:Nat):Int)∧r=((a % 1000:Nat):Int):=by obtain ⟨z⟩:=z;simp only [Int.reduceToNat,Int.reducePow] at z;omega
theorem dq2 {a:Nat} {q r q' r':Int} (z:DivZ (0*(2:Int) ^ Int.toNat 10+((a / 1024:Nat):Int)) q r) (z':DivZ (r*(2:Int) ^ Int.toNat 10+((a % 1024:Nat):Int)) q' r') : q*1024+q'=((a / 1000:Nat):Int)∧r'=((a % 1000:Nat):Int):=by
  obtain ⟨z⟩:=z;obtain ⟨z'⟩:=z';simp only [Int.reduceToNat,Int.reducePow] at z z';omega
theorem dq3 {a : Nat} {q r q' r' q'' r'' : Int} (z : DivZ (0 * (2 : Int) ^ Int.toNat 10 + ((a / 1024 / 1024 : Nat) : Int)) q r) (z' : DivZ (r * (2 : Int) ^ Int.toNat 10 + ((a / 1024 % 1024 : Nat) : Int)) q' r') (z'' : DivZ (r' * (2 : Int) ^ Int.toNat 10 + ((a % 1024 : Nat) : Int)) q'' r'') :
    (q*1024+q')*1024+q''=((a / 1000:Nat):Int)∧r''=((a % 1000:Nat):Int):=by
  obtain ⟨z⟩:=z;obtain ⟨z'⟩:=z';obtain ⟨z''⟩:=z'';simp only [Int.reduceToNat,Int.reducePow] at z z' z'';omega
noncomputable def get_sep_S (x:Str) (t:Tok):Prop:=sP 213 1 [.str x t] nPr (PStr (ofString "/"))
theorem get_sep_P:∀ (x:Str) (t:Tok),get_sep_S x t:=by
  intro x t
  k_extra "r1"
  intros B F X T hf hke hdp hun hpre hret
  refine wpAny_call ?_
  k_extra "r2"
  walk_at "m_fill"
  clear F X T B hf hke
  intro L' h₁ F N B X T;(try dsimp only)
  k_steps
  all_goals (rename Fr _ _ _ _=>F9);refine hret _ _ _ F9.keep (Nat.le_trans F9.above (Nat.le_of_lt F9.ns.lt)) ?_
  exact ⟨_,rfl⟩
theorem get_sep:∀ (x:Str) (t:Tok),sP 213 1 [.str x t] nPr (PStr (ofString "/")):=fun x t=>get_sep_P x t
noncomputable def fspath_S (x:Str) (t:Tok):Prop:=sP 199 1 [.str x t] nPr (PStr x)
theorem fspath_P:∀ (x:Str) (t:Tok),fspath_S x t:=by
  intro x t
  k_extra "r1"
  intros B F X T hf hke hdp hun hpre hret
  refine wpAny_call ?_
  k_extra "r2"
  walk_at "m_fill"
  clear F X T B hf hke
  intro L' h₁ F N B X T;(try dsimp only)
  k_steps
  all_goals (rename Fr _ _ _ _=>F9);refine hret _ _ _ F9.keep (Nat.le_trans F9.above (Nat.le_of_lt F9.ns.lt)) ?_
  exact ⟨_,rfl⟩
theorem fspath:∀ (x:Str) (t:Tok),sP 199 1 [.str x t] nPr (PStr x):=fun x t=>fspath_P x t
example:True:=by
  k_with "call ref"=>((k_here;(refine cI (n:=213) (by with_reducible rfl) ?_);k_dflt (refine' (get_sep _ _) ?kwB ?kwF ?kwX ?kwT ?kwc1 ?kwc2 ?kwc3 ?kwc4 ?kwd ?kwu ?kwp ?_;walk_at "m_used")))
  k_with "call ref"=>((k_here;(refine cI (n:=199) (by with_reducible rfl) ?_);k_dflt (refine' (fspath _ _) ?kwB ?kwF ?kwX ?kwT ?kwc1 ?kwc2 ?kwc3 ?kwc4 ?kwd ?kwu ?kwp ?_;walk_at "m_used")))
  trivial
noncomputable def basename_S (x:Str) (t:Tok):Prop:=∀ (hx : x.length≤1000),sP 234 2 [.str x t] nPr (PStr (Txt.slice x (some (Txt.rfind x (ofString "/")+1)) none))
theorem basename_P:∀ (x:Str) (t:Tok),basename_S x t:=by
  intro x t
  intros hx
  k_extra "r1"
  intros B F X T hf hke hdp hun hpre hret
  refine wpAny_call ?_
  k_extra "r3"
  walk_at "m_fill"
  clear F X T B hf hke
  intro L' h₁ F N B X T;(try dsimp only)
  k_steps
  all_goals (rename Fr _ _ _ _=>F9);refine hret _ _ _ F9.keep (Nat.le_trans F9.above (Nat.le_of_lt F9.ns.lt)) ?_
  exact ⟨_,rfl⟩
theorem basename:∀ (x:Str) (t:Tok) (hx : x.length≤1000),sP 234 2 [.str x t] nPr (PStr (Txt.slice x (some (Txt.rfind x (ofString "/")+1)) none)):=fun x t hx=>basename_P x t hx
example:True:=by
  k_with "of"=>apply Lx.l96<;>assumption
  k_with "of"=>apply Lx.l255<;>assumption
  k_with "oleI"=>apply Lx.l272
  k_with "oltI"=>apply Lx.l589<;>assumption
  k_with "oleN"=>apply Lx.l468<;>assumption
  k_with "oleI"=>apply Lx.l477<;>assumption
  trivial
example:True:=by
  k_with "call ref"=>((k_here;(refine cI (n:=213) (by with_reducible rfl) ?_);k_dflt (refine' (get_sep _ _) ?kwB ?kwF ?kwX ?kwT ?kwc1 ?kwc2 ?kwc3 ?kwc4 ?kwd ?kwu ?kwp ?_;walk_at "m_used")))
  k_with "call ref"=>((k_here;(refine cI (n:=199) (by with_reducible rfl) ?_);k_dflt (refine' (fspath _ _) ?kwB ?kwF ?kwX ?kwT ?kwc1 ?kwc2 ?kwc3 ?kwc4 ?kwd ?kwu ?kwp ?_;walk_at "m_used")))
  trivial
noncomputable def splitroot1_S (x:Str) (t:Tok):Prop:=∀ (hx : x.length≤1000) (h1:Fct ((Txt.slice x none (some 1) != ofString "/")=false)) (h2:Fct ((Txt.slice x (some 1) (some 2) != ofString "/")=true)),sP 227 2 [.str x t] nPr (PNew fun o=>∃ a b c,o={ cls:=.type "tuple",data:=.seq [.str (ofString "") a,.str (ofString "/") b,.str (Txt.slice x (some 1) none) c].toArray })
theorem splitroot1_P:∀ (x:Str) (t:Tok),splitroot1_S x t:=by
  intro x t
  intros hx h1 h2
  k_extra "r1"
  intros B F X T hf hke hdp hun hpre hret
  refine wpAny_call ?_
  k_extra "r3"
  walk_at "m_fill"
  clear F X T B hf hke
  intro L' h₁ F N B X T;(try dsimp only)
  k_steps
  all_goals (rename Fr _ _ _ _=>F9);refine hret _ _ _ F9.keep (Nat.le_trans F9.above (Nat.le_of_lt F9.ns.lt)) ?_
  exact pnew_of (by k_asm) (by k_mem) ⟨_,_,_,rfl⟩
theorem splitroot1:∀ (x:Str) (t:Tok) (hx : x.length≤1000) (h1:Fct ((Txt.slice x none (some 1) != ofString "/")=false)) (h2:Fct ((Txt.slice x (some 1) (some 2) != ofString "/")=true)),sP 227 2 [.str x t] nPr (PNew fun o=>∃ a b c,o={ cls:=.type "tuple",data:=.seq [.str (ofString "") a,.str (ofString "/") b,.str (Txt.slice x (some 1) none) c].toArray }):=fun x t hx h1 h2=>splitroot1_P x t hx h1 h2
noncomputable def dirnameT (x:Str):Str :=
  let h:=Txt.slice x none (some (Txt.rfind x (ofString "/")+1))
  if h.length=0 then h else if (h != Txt.mul (ofString "/") h.length)=true then Txt.rstripChars h (ofString "/") else h
noncomputable def dirname_S (x:Str) (t:Tok):Prop:=∀ (hx : x.length≤1000),sP 241 2 [.str x t] nPr (PStr (dirnameT x))
theorem dirname_P:∀ (x:Str) (t:Tok),dirname_S x t:=by
  intro x t
  intros hx
  k_extra "r1"
  intros B F X T hf hke hdp hun hpre hret
  refine wpAny_call ?_
  k_extra "r3"
  walk_at "m_fill"
  clear F X T B hf hke
  intro L' h₁ F N B X T;(try dsimp only)
  k_steps
  all_goals (rename Fr _ _ _ _=>F9);refine hret _ _ _ F9.keep (Nat.le_trans F9.above (Nat.le_of_lt F9.ns.lt)) ?_
  all_goals (refine pstr_of ?_;unfold dirnameT;dsimp only;clear hret B X T;(repeat' split)<;>first | with_reducible rfl | (exfalso;omega) | contradiction | (exfalso;(rename (_=false)=>hF);(rename (_=true)=>hT);(replace hT:=hT;rw [hF] at hT);cases hT) | rfl)
theorem dirname:∀ (x:Str) (t:Tok) (hx : x.length≤1000),sP 241 2 [.str x t] nPr (PStr (dirnameT x)):=fun x t hx=>dirname_P x t hx
noncomputable def join3_S (x y:Str) (t u v:Tok):Prop:=∀ (hx : x.length≤1000) (hy : y.length≤1000) (h1:Fct (Txt.startswith x (ofString "/")=false)) (h2:Fct (Txt.startswith y (ofString "/")=false)) (h3:Fct (Txt.endswith (ofString "/"++x) (ofString "/")=false)),sP 220 3 [.str (ofString "/") t,.str x u,.str y v] nPr (PStr (ofString "/"++x++(ofString "/"++y)))
theorem join3_P:∀ (x y:Str) (t u v:Tok),join3_S x y t u v:=by
  intro x y t u v
  intros hx hy h1 h2 h3
  k_extra "r1"
  intros B F X T hf hke hdp hun hpre hret
  refine wpAny_call ?_
  k_dflt refine' enterR (binds:=fun D=>[(ofString "a",.str (ofString "/") t),(ofString "p",.ref D)]) B F X T rfl hf hke ?k6 ?k7 ?k8 ?k9 ?kf ?kB ?c5 ?c2 ?c3 ?c4 ?_
  walk_at "m_fillR"
  clear F X T B hf hke
  intro D L' h₁ tk₁ F N B X T;(try dsimp only)
  k_steps
  all_goals (rename Fr _ _ _ _=>F9);refine hret _ _ _ F9.keep (Nat.le_trans F9.above (Nat.le_of_lt F9.ns.lt)) ?_
  all_goals (refine pstr_of ?_;rfl)
theorem join3 : ∀ (x y : Str) (t u v : Tok) (hx : x.length ≤ 1000) (hy : y.length ≤ 1000)
   (h1:Fct (Txt.startswith x (ofString "/")=false)) (h2:Fct (Txt.startswith y (ofString "/")=false)) (h3:Fct (Txt.endswith (ofString "/"++x) (ofString "/")=false)),sP 220 3 [.str (ofString "/") t,.str x u,.str y v] nPr (PStr (ofString "/"++x++(ofString "/"++y))):=fun x y t u v hx hy h1 h2 h3=>join3_P x y t u v hx hy h1 h2 h3
example:True:=by
  k_with "oltN"=>apply Lx.l529
  k_with "oleN"=>apply Lx.l164<;>assumption
  k_with "oltI"=>apply Lx.l187<;>assumption
  trivial
example:True:=by
  k_with "call ref"=>((k_here;(refine cI (n:=213) (by with_reducible rfl) ?_);k_dflt (refine' (get_sep _ _) ?kwB ?kwF ?kwX ?kwT ?kwc1 ?kwc2 ?kwc3 ?kwc4 ?kwd ?kwu ?kwp ?_;walk_at "m_used")))
  k_with "call ref"=>((k_here;(refine cI (n:=199) (by with_reducible rfl) ?_);k_dflt (refine' (fspath _ _) ?kwB ?kwF ?kwX ?kwT ?kwc1 ?kwc2 ?kwc3 ?kwc4 ?kwd ?kwu ?kwp ?_;walk_at "m_used")))
  k_with "call ref"=>((k_here;(refine cI (n:=227) (by with_reducible rfl) ?_);k_dflt (refine' (splitroot1 _ _ (by with_reducible assumption) (by with_reducible assumption) (by with_reducible assumption)) ?kwB ?kwF ?kwX ?kwT ?kwc1 ?kwc2 ?kwc3 ?kwc4 ?kwd ?kwu ?kwp ?_;walk_at "m_used")))
  trivial
noncomputable def normpath0_S (x c d:Str) (t:Tok):Prop:=∀ (hx : x.length≤1000) (hx0:Fct (((x.length:Int) != 0)=true)) (hc : c.length≤1000) (hd : d.length≤1000) (h1:Fct ((Txt.slice x none (some 1) != ofString "/")=false)) (h2:Fct ((Txt.slice x (some 1) (some 2) != ofString "/")=true)) (h3:Fct (Txt.split (Txt.slice x (some 1) none) (ofString "/")=[c,d])) (hj:(Txt.join (ofString "/") [c,d]).length≤3000) (c0:Fct (((c.length:Int) != 0)=true)) (d0:Fct (((d.length:Int) != 0)=true)) (c1:Fct ((c == ofString ".")=false)) (d1:Fct ((d == ofString ".")=false)) (c2:Fct ((c != ofString "..")=true)) (d2:Fct ((d != ofString "..")=true)),sP 248 3 [.str x t] nPr (PStr (ofString "/"++Txt.join (ofString "/") [c,d]))
theorem normpath0_P:∀ (x c d:Str) (t:Tok),normpath0_S x c d t:=by
  intro x c d t
  intros hx hx0 hc hd h1 h2 h3 hj c0 d0 c1 d1 c2 d2
  k_extra "r1"
  intros B F X T hf hke hdp hun hpre hret
  refine wpAny_call ?_
  k_extra "r2"
  walk_at "m_fill"
  clear F X T B hf hke
  intro L' h₁ F N B X T;(try dsimp only)
  k_steps
  all_goals (rename Fr _ _ _ _=>F9);refine hret _ _ _ F9.keep (Nat.le_trans F9.above (Nat.le_of_lt F9.ns.lt)) ?_
  all_goals (refine pstr_of ?_;rfl)
theorem normpath0 : ∀ (x c d : Str) (t : Tok) (hx : x.length ≤ 1000) (hx0 : Fct (((x.length : Int) != 0) = true)) (hc : c.length ≤ 1000) (hd : d.length ≤ 1000)
   (h1:Fct ((Txt.slice x none (some 1) != ofString "/")=false)) (h2:Fct ((Txt.slice x (some 1) (some 2) != ofString "/")=true))
   (h3:Fct (Txt.split (Txt.slice x (some 1) none) (ofString "/")=[c,d])) (hj:(Txt.join (ofString "/") [c,d]).length≤3000)
   (c0:Fct (((c.length:Int) != 0)=true)) (d0:Fct (((d.length:Int) != 0)=true)) (c1:Fct ((c == ofString ".")=false)) (d1:Fct ((d == ofString ".")=false)) (c2:Fct ((c != ofString "..")=true)) (d2:Fct ((d != ofString "..")=true)),sP 248 3 [.str x t] nPr (PStr (ofString "/"++Txt.join (ofString "/") [c,d])):=fun x c d t hx hx0 hc hd h1 h2 h3 hj c0 d0 c1 d1 c2 d2=>normpath0_P x c d t hx hx0 hc hd h1 h2 h3 hj c0 d0 c1 d1 c2 d2
noncomputable def normpath1_S (x c d:Str) (t:Tok):Prop:=∀ (hx : x.length≤1000) (hx0:Fct (((x.length:Int) != 0)=true)) (hc : c.length≤1000) (hd : d.length≤1000) (h1:Fct ((Txt.slice x none (some 1) != ofString "/")=false)) (h2:Fct ((Txt.slice x (some 1) (some 2) != ofString "/")=true)) (h3:Fct (Txt.split (Txt.slice x (some 1) none) (ofString "/")=[ofString ".",c,d])) (hj:(Txt.join (ofString "/") [c,d]).length≤3000) (c0:Fct (((c.length:Int) != 0)=true)) (d0:Fct (((d.length:Int) != 0)=true)) (c1:Fct ((c == ofString ".")=false)) (d1:Fct ((d == ofString ".")=false)) (c2:Fct ((c != ofString "..")=true)) (d2:Fct ((d != ofString "..")=true)),sP 248 3 [.str x t] nPr (PStr (ofString "/"++Txt.join (ofString "/") [c,d]))
theorem normpath1_P:∀ (x c d:Str) (t:Tok),normpath1_S x c d t:=by
  intro x c d t
  intros hx hx0 hc hd h1 h2 h3 hj c0 d0 c1 d1 c2 d2
  k_extra "r1"
  intros B F X T hf hke hdp hun hpre hret
  refine wpAny_call ?_
  k_extra "r2"
  walk_at "m_fill"
  clear F X T B hf hke
  intro L' h₁ F N B X T;(try dsimp only)
  k_steps
  all_goals (rename Fr _ _ _ _=>F9);refine hret _ _ _ F9.keep (Nat.le_trans F9.above (Nat.le_of_lt F9.ns.lt)) ?_
  all_goals (refine pstr_of ?_;rfl)
theorem normpath1 : ∀ (x c d : Str) (t : Tok) (hx : x.length ≤ 1000) (hx0 : Fct (((x.length : Int) != 0) = true)) (hc : c.length ≤ 1000) (hd : d.length ≤ 1000)
   (h1:Fct ((Txt.slice x none (some 1) != ofString "/")=false)) (h2:Fct ((Txt.slice x (some 1) (some 2) != ofString "/")=true))
   (h3:Fct (Txt.split (Txt.slice x (some 1) none) (ofString "/")=[ofString ".",c,d])) (hj:(Txt.join (ofString "/") [c,d]).length≤3000)
   (c0:Fct (((c.length:Int) != 0)=true)) (d0:Fct (((d.length:Int) != 0)=true)) (c1:Fct ((c == ofString ".")=false)) (d1:Fct ((d == ofString ".")=false)) (c2:Fct ((c != ofString "..")=true)) (d2:Fct ((d != ofString "..")=true)),sP 248 3 [.str x t] nPr (PStr (ofString "/"++Txt.join (ofString "/") [c,d])):=fun x c d t hx hx0 hc hd h1 h2 h3 hj c0 d0 c1 d1 c2 d2=>normpath1_P x c d t hx hx0 hc hd h1 h2 h3 hj c0 d0 c1 d1 c2 d2
noncomputable def normpath2_S (x c d:Str) (t:Tok):Prop:=∀ (hx : x.length≤1000) (hx0:Fct (((x.length:Int) != 0)=true)) (hc : c.length≤1000) (hd : d.length≤1000) (h1:Fct ((Txt.slice x none (some 1) != ofString "/")=false)) (h2:Fct ((Txt.slice x (some 1) (some 2) != ofString "/")=true)) (h3:Fct (Txt.split (Txt.slice x (some 1) none) (ofString "/")=[ofString "z",ofString "..",c,d])) (hj:(Txt.join (ofString "/") [c,d]).length≤3000) (c0:Fct (((c.length:Int) != 0)=true)) (d0:Fct (((d.length:Int) != 0)=true)) (c1:Fct ((c == ofString ".")=false)) (d1:Fct ((d == ofString ".")=false)) (c2:Fct ((c != ofString "..")=true)) (d2:Fct ((d != ofString "..")=true)),sP 248 3 [.str x t] nPr (PStr (ofString "/"++Txt.join (ofString "/") [c,d]))
theorem normpath2_P:∀ (x c d:Str) (t:Tok),normpath2_S x c d t:=by
  intro x c d t
  intros hx hx0 hc hd h1 h2 h3 hj c0 d0 c1 d1 c2 d2
  k_extra "r1"
  intros B F X T hf hke hdp hun hpre hret
  refine wpAny_call ?_
  k_extra "r2"
  walk_at "m_fill"
  clear F X T B hf hke
  intro L' h₁ F N B X T;(try dsimp only)
  k_steps
  all_goals (rename Fr _ _ _ _=>F9);refine hret _ _ _ F9.keep (Nat.le_trans F9.above (Nat.le_of_lt F9.ns.lt)) ?_
  all_goals (refine pstr_of ?_;rfl)
theorem normpath2 : ∀ (x c d : Str) (t : Tok) (hx : x.length ≤ 1000) (hx0 : Fct (((x.length : Int) != 0) = true)) (hc : c.length ≤ 1000) (hd : d.length ≤ 1000)
   (h1:Fct ((Txt.slice x none (some 1) != ofString "/")=false)) (h2:Fct ((Txt.slice x (some 1) (some 2) != ofString "/")=true))
   (h3:Fct (Txt.split (Txt.slice x (some 1) none) (ofString "/")=[ofString "z",ofString "..",c,d])) (hj:(Txt.join (ofString "/") [c,d]).length≤3000)
   (c0:Fct (((c.length:Int) != 0)=true)) (d0:Fct (((d.length:Int) != 0)=true)) (c1:Fct ((c == ofString ".")=false)) (d1:Fct ((d == ofString ".")=false)) (c2:Fct ((c != ofString "..")=true)) (d2:Fct ((d != ofString "..")=true)),sP 248 3 [.str x t] nPr (PStr (ofString "/"++Txt.join (ofString "/") [c,d])):=fun x c d t hx hx0 hc hd h1 h2 h3 hj c0 d0 c1 d1 c2 d2=>normpath2_P x c d t hx hx0 hc hd h1 h2 h3 hj c0 d0 c1 d1 c2 d2
noncomputable def normpath3_S (x c d:Str) (t:Tok):Prop:=∀ (hx : x.length≤1000) (hx0:Fct (((x.length:Int) != 0)=true)) (hc : c.length≤1000) (hd : d.length≤1000) (h1:Fct ((Txt.slice x none (some 1) != ofString "/")=false)) (h2:Fct ((Txt.slice x (some 1) (some 2) != ofString "/")=true)) (h3:Fct (Txt.split (Txt.slice x (some 1) none) (ofString "/")=[c,d,ofString ""])) (hj:(Txt.join (ofString "/") [c,d]).length≤3000) (c0:Fct (((c.length:Int) != 0)=true)) (d0:Fct (((d.length:Int) != 0)=true)) (c1:Fct ((c == ofString ".")=false)) (d1:Fct ((d == ofString ".")=false)) (c2:Fct ((c != ofString "..")=true)) (d2:Fct ((d != ofString "..")=true)),sP 248 3 [.str x t] nPr (PStr (ofString "/"++Txt.join (ofString "/") [c,d]))
theorem normpath3_P:∀ (x c d:Str) (t:Tok),normpath3_S x c d t:=by
  intro x c d t
  intros hx hx0 hc hd h1 h2 h3 hj c0 d0 c1 d1 c2 d2
  k_extra "r1"
  intros B F X T hf hke hdp hun hpre hret
  refine wpAny_call ?_
  k_extra "r2"
  walk_at "m_fill"
  clear F X T B hf hke
  intro L' h₁ F N B X T;(try dsimp only)
  k_steps
  all_goals (rename Fr _ _ _ _=>F9);refine hret _ _ _ F9.keep (Nat.le_trans F9.above (Nat.le_of_lt F9.ns.lt)) ?_
  all_goals (refine pstr_of ?_;rfl)
theorem normpath3 : ∀ (x c d : Str) (t : Tok) (hx : x.length ≤ 1000) (hx0 : Fct (((x.length : Int) != 0) = true)) (hc : c.length ≤ 1000) (hd : d.length ≤ 1000)
   (h1:Fct ((Txt.slice x none (some 1) != ofString "/")=false)) (h2:Fct ((Txt.slice x (some 1) (some 2) != ofString "/")=true))
   (h3:Fct (Txt.split (Txt.slice x (some 1) none) (ofString "/")=[c,d,ofString ""])) (hj:(Txt.join (ofString "/") [c,d]).length≤3000)
   (c0:Fct (((c.length:Int) != 0)=true)) (d0:Fct (((d.length:Int) != 0)=true)) (c1:Fct ((c == ofString ".")=false)) (d1:Fct ((d == ofString ".")=false)) (c2:Fct ((c != ofString "..")=true)) (d2:Fct ((d != ofString "..")=true)),sP 248 3 [.str x t] nPr (PStr (ofString "/"++Txt.join (ofString "/") [c,d])):=fun x c d t hx hx0 hc hd h1 h2 h3 hj c0 d0 c1 d1 c2 d2=>normpath3_P x c d t hx hx0 hc hd h1 h2 h3 hj c0 d0 c1 d1 c2 d2
noncomputable def SpecX (f:Addr) (D:Nat) (vs:List Value) (Pre:Heap→Prop) (Post:Heap→Value→Heap→Prop) (O O':List (Addr×Obj)→Prop):Prop :=
  ∀ {prog:Program} {w:World} {p:Program} {loose:List Str} {mean:ExcName→Option Value} {mg mb:Str→Option Value} {A:Around} {env:Env} {outer:List Env} {A₀:Around} {base h₀:Heap} {L:Addr} {m:Str→Option Value} {s:Shared} {Q E:Value→Shared→Prop} {mv:List (Addr×Obj)},
    Below A₀ base outer h₀→Fr h₀ L s.heap m→News h₀ L s.heap mv→O mv→(hd.heap_1 w.params).In h₀→Top p loose mean mg mb h₀→AllBare s.gens →
    A.handled=none→A.frames=some (env::outer)→env.frame=some L→env.scope.kind=.function→A.depth+D < 500→A.units+10*D < 5000→Pre (gnd s.heap mv) →
    (∀ v h' g' d' tk' mv',(gnd s.heap mv).StaysIn h'→s.heap.objs.size≤h'.objs.size→MvOut (gnd s.heap mv) h' mv'→O' mv'→AllBare g'→Post (gnd s.heap mv) v h'→Q v { heap:=h',gens:=g',drawn:=d',toks:=tk',os:=s.os }) →
    wpAny (model prog w) A (call (.ref f) vs) Q E s
noncomputable def SpecXB (f:Addr) (D:Nat) (vs:List Value) (Pre:Heap→Prop) (Post:Heap→Value→Heap→Prop) (O O':List (Addr×Obj)→Prop) (c:CtxQ):Prop :=
    Below c.A₀ c.base c.outer c.h₀→Fr c.h₀ c.L c.s.heap c.m→News c.h₀ c.L c.s.heap c.mv→O c.mv→(hd.heap_1 c.w.params).In c.h₀→Top c.p c.loose c.mean c.mg c.mb c.h₀→AllBare c.s.gens →
    c.env.frame=some c.L→c.env.scope.kind=.function→c.dp+D < 500→c.un+10*D < 5000→Pre (gnd c.s.heap c.mv) →
    (∀ v h' g' d' tk' mv',(gnd c.s.heap c.mv).StaysIn h'→c.s.heap.objs.size≤h'.objs.size→MvOut (gnd c.s.heap c.mv) h' mv'→O' mv'→AllBare g'→Post (gnd c.s.heap c.mv) v h'→c.Q v { heap:=h',gens:=g',drawn:=d',toks:=tk',os:=c.s.os }) →
    wpAny (model c.prog c.w) ⟨none,c.dp,some (c.env::c.outer),c.gd,c.un⟩ (call (.ref f) vs) c.Q c.E c.s
theorem ctxX {f : Addr} {D : Nat} {vs : List Value} {Pre : Heap → Prop} {Post : Heap → Value → Heap → Prop} {O O' : List (Addr × Obj) → Prop} (h :
    Below (pick neC (SpecXB f D vs Pre Post O O')).A₀ (pick neC (SpecXB f D vs Pre Post O O')).base (pick neC (SpecXB f D vs Pre Post O O')).outer (pick neC (SpecXB f D vs Pre Post O O')).h₀→Fr (pick neC (SpecXB f D vs Pre Post O O')).h₀ (pick neC (SpecXB f D vs Pre Post O O')).L (pick neC (SpecXB f D vs Pre Post O O')).s.heap (pick neC (SpecXB f D vs Pre Post O O')).m→News (pick neC (SpecXB f D vs Pre Post O O')).h₀ (pick neC (SpecXB f D vs Pre Post O O')).L (pick neC (SpecXB f D vs Pre Post O O')).s.heap (pick neC (SpecXB f D vs Pre Post O O')).mv→O (pick neC (SpecXB f D vs Pre Post O O')).mv→(hd.heap_1 (pick neC (SpecXB f D vs Pre Post O O')).w.params).In (pick neC (SpecXB f D vs Pre Post O O')).h₀→Top (pick neC (SpecXB f D vs Pre Post O O')).p (pick neC (SpecXB f D vs Pre Post O O')).loose (pick neC (SpecXB f D vs Pre Post O O')).mean (pick neC (SpecXB f D vs Pre Post O O')).mg (pick neC (SpecXB f D vs Pre Post O O')).mb (pick neC (SpecXB f D vs Pre Post O O')).h₀→AllBare (pick neC (SpecXB f D vs Pre Post O O')).s.gens →
    (pick neC (SpecXB f D vs Pre Post O O')).env.frame=some (pick neC (SpecXB f D vs Pre Post O O')).L→(pick neC (SpecXB f D vs Pre Post O O')).env.scope.kind=.function→(pick neC (SpecXB f D vs Pre Post O O')).dp+D < 500→(pick neC (SpecXB f D vs Pre Post O O')).un+10*D < 5000→Pre (gnd (pick neC (SpecXB f D vs Pre Post O O')).s.heap (pick neC (SpecXB f D vs Pre Post O O')).mv) →
    (∀ v h' g' d' tk' mv',(gnd (pick neC (SpecXB f D vs Pre Post O O')).s.heap (pick neC (SpecXB f D vs Pre Post O O')).mv).StaysIn h'→(pick neC (SpecXB f D vs Pre Post O O')).s.heap.objs.size≤h'.objs.size→MvOut (gnd (pick neC (SpecXB f D vs Pre Post O O')).s.heap (pick neC (SpecXB f D vs Pre Post O O')).mv) h' mv'→O' mv'→AllBare g'→Post (gnd (pick neC (SpecXB f D vs Pre Post O O')).s.heap (pick neC (SpecXB f D vs Pre Post O O')).mv) v h'→(pick neC (SpecXB f D vs Pre Post O O')).Q v { heap:=h',gens:=g',drawn:=d',toks:=tk',os:=(pick neC (SpecXB f D vs Pre Post O O')).s.os }) →
    wpAny (model (pick neC (SpecXB f D vs Pre Post O O')).prog (pick neC (SpecXB f D vs Pre Post O O')).w) ⟨none,(pick neC (SpecXB f D vs Pre Post O O')).dp,some ((pick neC (SpecXB f D vs Pre Post O O')).env::(pick neC (SpecXB f D vs Pre Post O O')).outer),(pick neC (SpecXB f D vs Pre Post O O')).gd,(pick neC (SpecXB f D vs Pre Post O O')).un⟩ (call (.ref f) vs) (pick neC (SpecXB f D vs Pre Post O O')).Q (pick neC (SpecXB f D vs Pre Post O O')).E (pick neC (SpecXB f D vs Pre Post O O')).s):SpecX f D vs Pre Post O O':=by
  have h2:∀ c,SpecXB f D vs Pre Post O O' c:=pickI (n:=neC) h
  intros prog w p loose mean mg mb A env outer A₀ base h₀ L m s Q E mv B F Nm hO X T hG hhd hA hf hke hdp hun hpre hret
  obtain ⟨hd0,dp,fr,gd,un⟩:=A
  dsimp only at hhd hA hdp hun;subst hhd hA
  k_extra "r4"
noncomputable def NoMv (mv:List (Addr×Obj)):Prop:=mv=[]
example:True:=by
  k_with "oltN"=>apply Lx.l379<;>assumption
  k_with "oleN"=>apply Lx.l6
  k_with "oleN"=>apply Lx.l45
  trivial
section
variable {prog:Program} {w:World} {A:Around} {E:Value→Shared→Prop} {s:Shared} {h₀:Heap} {L:Addr} {m:Str→Option Value} {news:List (Addr×Obj)} {Q:Value→Shared→Prop}
theorem trE {c : Nat} {t : Tok} (X : (hd.heap_1 w.params).In h₀) (F : Fr h₀ L s.heap m) (N : News h₀ L s.heap news) (hh : A.handled = none) (h1 : 47 ≤ c) (h2 : c ≤ 57)
    (k:∀ h' t' tk,s.toks≤t'→Fr h₀ L h' m→News h₀ L h' news→Q (.str ⟨#[c]⟩ t') { s with heap:=h',toks:=tk }) :
    wpAny (model prog w) A (call (.builtin "str.translate") [.str ⟨#[c]⟩ t,.ref 45]) Q E s:=by
  obtain ⟨f,hm,hf⟩:=map45 (prog:=prog) (X.keeps F.keep)
  exact tr_one (by omega) hm (hf c h1 h2) (by decide) hh fun h' e t' tk ht x=>k h' t' tk ht (frExc F x) (newsExc N x)
end
theorem gmTranslate {M:Model} {A:Around} {E:Value→Shared→Prop} {s:Shared} {x:Str} {t:Tok} {pl:Sem Bool} {Q:Value×List Value→Shared→Prop} (h:Q (.builtin "str.translate",[.str x t]) s) : wpAny M A (getMethod (.str x t) (ofString "translate") pl) Q E s:=by
  with_reducible exact GM.of (.str x t) (typeIs_str _ _ _) F.slot_str_translate F.type_str_translate GM.noRef h
example:True:=by
  k_with "getMethod str"=>((k_here;with_reducible refine gmTranslate ?_))
  k_with "execs cons"=>(((rename tAt _ _=>zqn5ehT9);(refine execsConsT (Nat.le_trans zqn5ehT9.le (by (try dsimp only);omega)) ?_)))
  k_with "TokQ"=>(((rename tAt _ _=>zqn5fhT9);(with_reducible show TokQ _ _ _);(refine TokQ.gen ?_);intro zqn5fk' zqn5fhk';clear zqn5fhT9;(have zqn5fhT9:=tAt.mk zqn5fhk');clear zqn5fhk';(try dsimp only)))
  k_with "exec If"=>((k_here;(rename tAt _ _=>zqn5ghT9);(refine ifT (Nat.le_trans zqn5ghT9.le (by (try dsimp only);omega)) ?_)))
  k_with "call builtin:str.translate"=>((k_here;(with_reducible show wpAny _ _ (call (Value.builtin "str.translate") [Value.str _ _,Value.ref _]) _ _ _);(rename tAt _ _=>zqn5hhT9);k_dflt (refine' trE ?kwX ?kwF ?kwN ?kwhh ?kwa ?kwb ?_;(case kwX=>k_asm);(case kwF=>k_asm);(case kwN=>k_asm);(case kwhh=>first | rfl | assumption);(case kwa=>assumption);(case kwb=>assumption));intro _ zqn5ht' _ zqn5hht';(have zqn5hhT8:=TokV.mk (Nat.le_trans zqn5hhT9.le zqn5hht'));intro _ _))
  trivial
noncomputable def SpecE (f:Addr) (D:Nat) (vs:List Value) (x:Str):Prop :=
  ∀ {prog:Program} {w:World} {p:Program} {loose:List Str} {mean:ExcName→Option Value} {mg mb:Str→Option Value} {A:Around} {env:Env} {outer:List Env} {A₀:Around} {base h₀:Heap} {L:Addr} {m:Str→Option Value} {s:Shared} {Q E:Value→Shared→Prop},
    Below A₀ base outer h₀→Fr h₀ L s.heap m→(hd.heap_1 w.params).In h₀→Top p loose mean mg mb h₀ →
    A.handled=none→A.frames=some (env::outer)→env.frame=some L→env.scope.kind=.function→A.depth+D < 500→A.units+10*D < 5000 →
    (∀ h' t' tk',s.heap.StaysIn h'→s.heap.objs.size≤h'.objs.size→s.toks≤t'→Q (.str x t') { s with heap:=h',toks:=tk' }) →
    wpAny (model prog w) A (call (.ref f) vs) Q E s
noncomputable def SpecEB (f:Addr) (D:Nat) (vs:List Value) (x:Str) (c:CtxQ):Prop :=
    Below c.A₀ c.base c.outer c.h₀→Fr c.h₀ c.L c.s.heap c.m→(hd.heap_1 c.w.params).In c.h₀→Top c.p c.loose c.mean c.mg c.mb c.h₀ →
    c.env.frame=some c.L→c.env.scope.kind=.function→c.dp+D < 500→c.un+10*D < 5000 →
    (∀ h' t' tk',c.s.heap.StaysIn h'→c.s.heap.objs.size≤h'.objs.size→c.s.toks≤t'→c.Q (.str x t') { c.s with heap:=h',toks:=tk' }) →
    wpAny (model c.prog c.w) ⟨none,c.dp,some (c.env::c.outer),c.gd,c.un⟩ (call (.ref f) vs) c.Q c.E c.s
theorem ctxE {f : Addr} {D : Nat} {vs : List Value} {x : Str} (h :
    Below (pick neC (SpecEB f D vs x)).A₀ (pick neC (SpecEB f D vs x)).base (pick neC (SpecEB f D vs x)).outer (pick neC (SpecEB f D vs x)).h₀→Fr (pick neC (SpecEB f D vs x)).h₀ (pick neC (SpecEB f D vs x)).L (pick neC (SpecEB f D vs x)).s.heap (pick neC (SpecEB f D vs x)).m→(hd.heap_1 (pick neC (SpecEB f D vs x)).w.params).In (pick neC (SpecEB f D vs x)).h₀→Top (pick neC (SpecEB f D vs x)).p (pick neC (SpecEB f D vs x)).loose (pick neC (SpecEB f D vs x)).mean (pick neC (SpecEB f D vs x)).mg (pick neC (SpecEB f D vs x)).mb (pick neC (SpecEB f D vs x)).h₀ →
    (pick neC (SpecEB f D vs x)).env.frame=some (pick neC (SpecEB f D vs x)).L→(pick neC (SpecEB f D vs x)).env.scope.kind=.function→(pick neC (SpecEB f D vs x)).dp+D < 500→(pick neC (SpecEB f D vs x)).un+10*D < 5000 →
    (∀ h' t' tk',(pick neC (SpecEB f D vs x)).s.heap.StaysIn h'→(pick neC (SpecEB f D vs x)).s.heap.objs.size≤h'.objs.size→(pick neC (SpecEB f D vs x)).s.toks≤t'→(pick neC (SpecEB f D vs x)).Q (.str x t') { (pick neC (SpecEB f D vs x)).s with heap:=h',toks:=tk' }) →
    wpAny (model (pick neC (SpecEB f D vs x)).prog (pick neC (SpecEB f D vs x)).w) ⟨none,(pick neC (SpecEB f D vs x)).dp,some ((pick neC (SpecEB f D vs x)).env::(pick neC (SpecEB f D vs x)).outer),(pick neC (SpecEB f D vs x)).gd,(pick neC (SpecEB f D vs x)).un⟩ (call (.ref f) vs) (pick neC (SpecEB f D vs x)).Q (pick neC (SpecEB f D vs x)).E (pick neC (SpecEB f D vs x)).s):SpecE f D vs x:=by
  have h2:∀ c,SpecEB f D vs x c:=pickI (n:=neC) h
  intros prog w p loose mean mg mb A env outer A₀ base h₀ L m s Q E B F X T hhd hA hf hke hdp hun hret
  obtain ⟨hd0,dp,fr,gd,un⟩:=A
  dsimp only at hhd hA hdp hun;subst hhd hA
  exact h2 ⟨prog,w,p,loose,mean,mg,mb,env,outer,A₀,base,h₀,L,m,s,Q,E,dp,gd,un,default⟩ B F X T hf hke hdp hun hret
noncomputable def escape1_S (c:Nat) (t:Tok):Prop:=∀ (h1 : 47≤c) (h2 : c≤57),SpecE 55 2 [.str ⟨#[c]⟩ t] ⟨#[c]⟩
theorem escape1_P:∀ (c:Nat) (t:Tok),escape1_S c t:=by
  intro c t
  intros h1 h2
  refine @ctxE _ _ _ _ ?_;generalize CtxQ.prog _=prog;generalize CtxQ.w _=w;generalize CtxQ.p _=p;generalize CtxQ.loose _=loose;generalize CtxQ.mean _=mean;generalize CtxQ.mg _=mg;generalize CtxQ.mb _=mb;generalize CtxQ.env _=env;generalize CtxQ.outer _=outer;generalize CtxQ.A₀ _=A₀;generalize CtxQ.base _=base;generalize CtxQ.h₀ _=h₀;generalize CtxQ.L _=L;generalize CtxQ.m _=m;generalize CtxQ.s _=s;generalize CtxQ.Q _=Q;generalize CtxQ.E _=E;generalize CtxQ.dp _=dp;generalize CtxQ.gd _=gd;generalize CtxQ.un _=un
  intros B F X T hf hke hdp hun hret
  refine wpAny_call ?_
  have hT:tAt s.toks s.toks:=⟨Nat.le_refl _⟩
  k_dflt refine' enterP (binds:=[(ofString "pattern",.str ⟨#[c]⟩ t)]) B F X T rfl hf hke ?k6 ?k7 ?k8 ?k9 ?kB ?c5 ?c2 ?c3 ?c4 ?_
  walk_at "m_fill"
  clear F X T B hf hke
  intro L' h₁ F N B X T;(try dsimp only)
  k_steps
  (rename Fr _ _ _ _=>F9)
  exact hret _ _ _ F9.keep (Nat.le_trans F9.above (Nat.le_of_lt F9.ns.lt)) (TokV.le (by with_reducible assumption))
theorem escape1:∀ (c:Nat) (t:Tok) (h1 : 47≤c) (h2 : c≤57),SpecE 55 2 [.str ⟨#[c]⟩ t] ⟨#[c]⟩:=fun c t h1 h2=>escape1_P c t h1 h2
example:True:=by
  k_with "oltI"=>apply Lx.l494<;>assumption
  k_with "oleN"=>apply Lx.l243<;>assumption
  k_with "oleI"=>apply Lx.l102
  k_with "oltN"=>apply Lx.l478
  k_with "oltI"=>apply Lx.l459
  k_with "oleI"=>apply Lx.l470<;>assumption
  k_with "oeqN"=>apply Lx.l31<;>assumption
  k_with "oltN"=>apply Lx.l448<;>assumption
  trivial
noncomputable def Seg.text : Seg → List Nat
  | .star=>[42]
  | .ques=>[63]
  | .sign c=>[c]
  | .cls neg ds=>91::((if neg then [33] else [])++ds++[93])
  | .rng neg p q=>91::((if neg then [33] else [])++[p,45,q]++[93])
noncomputable def many:Str:=ofString "many"
noncomputable def anyS:Str:=ofString "any"
noncomputable def Seg.ok : Seg → Prop
  | .star=>True
  | .ques=>True
  | .sign c=>47≤c∧c≤57
  | .cls _ ds=>(ds.length=1∨ds.length=2)∧∀ c∈ds,48≤c∧c≤57
  | .rng _ p q=>(48≤p∧p≤57)∧(48≤q∧q≤57)
noncomputable def Seg.step : Seg → List Str → List Str
  | .star,ps=>if ps.getLast?=some many then ps else ps++[many]
  | .ques,ps=>ps++[anyS]
  | .sign c,ps=>ps++[⟨#[c]⟩]
  | .cls neg ds,ps=>ps++[⟨(91::((if neg then [94] else [])++ds++[93])).toArray⟩]
  | .rng neg p q,ps=>ps++[if p≤q then ⟨(91::((if neg then [94] else [])++[p,45,q]++[93])).toArray⟩ else if neg then ⟨#[46]⟩ else ⟨#[40,63,33,41]⟩]
inductive Its (ts : Tok) : List Value → List Str → Prop
  | nil:Its ts [] []
  | star {vs:List Value} {ps:List Str} (h:Its ts vs ps):Its ts (vs++[.str many ts]) (ps++[many])
  | other {vs:List Value} {ps:List Str} (x:Str) (t:Tok) (hx : x≠many) (ht : ts < t) (h:Its ts vs ps):Its ts (vs++[.str x t]) (ps++[x])
noncomputable def sgT (l:List Seg):List Nat:=(l.map Seg.text).flatten
noncomputable def sgP (l:List Seg):List Str:=l.foldl (fun ps g=>g.step ps) []
theorem segsText_cons (g:Seg) (l:List Seg) : sgT (g::l)=g.text++sgT l:=rfl
theorem sgS (l:List Seg) (g:Seg) : sgP (l++[g])=g.step (sgP l):=by simp [sgP,List.foldl_append]
theorem segsText_append (l m:List Seg) : sgT (l++m)=sgT l++sgT m:=by simp [sgT]
theorem text_pos (g:Seg) : 1≤g.text.length:=by cases g<;>simp [Seg.text]
theorem segsText_len (l:List Seg) : l.length≤(sgT l).length:=by
  induction l with
  | nil=>exact Nat.le_refl _
  | cons g l ih=>rw [segsText_cons,List.length_append,List.length_cons];have:=text_pos g;omega
theorem itemN (cs:List Nat) {k:Int} (h : 0≤k) (hk : k < (cs.length:Int)):Txt.item ⟨cs.toArray⟩ k=⟨#[cs.getD k.toNat 0]⟩:=by
  obtain ⟨n,rfl⟩:=Int.eq_ofNat_of_zero_le h
  have hn : n < cs.length:=by omega
  unfold Txt.item Txt.charAt
  have : seqIndex? (n:Int) (Str.length ⟨cs.toArray⟩)=some n:=by
    unfold seqIndex?
    simp [Str.length]
    omega
  rw [this]
  simp [List.getD_eq_getElem?_getD,hn]
theorem item_at {A B:List Nat} {c:Nat}:Txt.item ⟨(A++c::B).toArray⟩ (A.length:Int)=⟨#[c]⟩:=by
  rw [itemN _ (by omega) (by simp;omega)]
  simp [List.getD_eq_getElem?_getD]
structure T57 (pl pg : Pos) (ps : Array Value) : Prop where
  tri:TriplesOk ps.toList
  lam : codeAmong pl ps.toList=none∨∃ c:Addr,codeAmong pl ps.toList=some (.ref c)
  gen : codeAmong pg ps.toList=none∨∃ c:Addr,codeAmong pg ps.toList=some (.ref c)
noncomputable def SpecT (f:Addr) (D:Nat) (vs:List Value) (τ:Nat) (Post:Heap→Value→Heap→Prop) (O O':List (Addr×Obj)→Prop):Prop :=
  ∀ {prog:Program} {w:World} {p:Program} {loose:List Str} {mean:ExcName→Option Value} {mg mb:Str→Option Value} {A:Around} {env:Env} {outer:List Env} {A₀:Around} {base h₀:Heap} {L:Addr} {m:Str→Option Value} {s:Shared} {Q E:Value→Shared→Prop} {mv:List (Addr×Obj)},
    Below A₀ base outer h₀→Fr h₀ L s.heap m→News h₀ L s.heap mv→O mv→(hd.heap_1 w.params).In h₀→Top p loose mean mg mb h₀→AllBare s.gens →
    A.handled=none→A.frames=some (env::outer)→env.frame=some L→env.scope.kind=.function→A.depth+D < 500→A.units+10*D < 5000→τ≤s.toks →
    (∀ v h' g' d' tk' mv',(gnd s.heap mv).StaysIn h'→s.heap.objs.size≤h'.objs.size→MvOut (gnd s.heap mv) h' mv'→O' mv'→AllBare g'→Post (gnd s.heap mv) v h'→Q v { heap:=h',gens:=g',drawn:=d',toks:=tk',os:=s.os }) →
    wpAny (model prog w) A (call (.ref f) vs) Q E s
noncomputable def SpecTB (f:Addr) (D:Nat) (vs:List Value) (τ:Nat) (Post:Heap→Value→Heap→Prop) (O O':List (Addr×Obj)→Prop) (c:CtxQ):Prop :=
    Below c.A₀ c.base c.outer c.h₀→Fr c.h₀ c.L c.s.heap c.m→News c.h₀ c.L c.s.heap c.mv→O c.mv→(hd.heap_1 c.w.params).In c.h₀→Top c.p c.loose c.mean c.mg c.mb c.h₀→AllBare c.s.gens →
    c.env.frame=some c.L→c.env.scope.kind=.function→c.dp+D < 500→c.un+10*D < 5000→τ≤c.s.toks →
    (∀ v h' g' d' tk' mv',(gnd c.s.heap c.mv).StaysIn h'→c.s.heap.objs.size≤h'.objs.size→MvOut (gnd c.s.heap c.mv) h' mv'→O' mv'→AllBare g'→Post (gnd c.s.heap c.mv) v h'→c.Q v { heap:=h',gens:=g',drawn:=d',toks:=tk',os:=c.s.os }) →
    wpAny (model c.prog c.w) ⟨none,c.dp,some (c.env::c.outer),c.gd,c.un⟩ (call (.ref f) vs) c.Q c.E c.s
theorem ctxT {f : Addr} {D : Nat} {vs : List Value} {τ : Nat} {Post : Heap → Value → Heap → Prop} {O O' : List (Addr × Obj) → Prop} (h :
    Below (pick neC (SpecTB f D vs τ Post O O')).A₀ (pick neC (SpecTB f D vs τ Post O O')).base (pick neC (SpecTB f D vs τ Post O O')).outer (pick neC (SpecTB f D vs τ Post O O')).h₀→Fr (pick neC (SpecTB f D vs τ Post O O')).h₀ (pick neC (SpecTB f D vs τ Post O O')).L (pick neC (SpecTB f D vs τ Post O O')).s.heap (pick neC (SpecTB f D vs τ Post O O')).m→News (pick neC (SpecTB f D vs τ Post O O')).h₀ (pick neC (SpecTB f D vs τ Post O O')).L (pick neC (SpecTB f D vs τ Post O O')).s.heap (pick neC (SpecTB f D vs τ Post O O')).mv→O (pick neC (SpecTB f D vs τ Post O O')).mv→(hd.heap_1 (pick neC (SpecTB f D vs τ Post O O')).w.params).In (pick neC (SpecTB f D vs τ Post O O')).h₀→Top (pick neC (SpecTB f D vs τ Post O O')).p (pick neC (SpecTB f D vs τ Post O O')).loose (pick neC (SpecTB f D vs τ Post O O')).mean (pick neC (SpecTB f D vs τ Post O O')).mg (pick neC (SpecTB f D vs τ Post O O')).mb (pick neC (SpecTB f D vs τ Post O O')).h₀→AllBare (pick neC (SpecTB f D vs τ Post O O')).s.gens →
    (pick neC (SpecTB f D vs τ Post O O')).env.frame=some (pick neC (SpecTB f D vs τ Post O O')).L→(pick neC (SpecTB f D vs τ Post O O')).env.scope.kind=.function→(pick neC (SpecTB f D vs τ Post O O')).dp+D < 500→(pick neC (SpecTB f D vs τ Post O O')).un+10*D < 5000→τ≤(pick neC (SpecTB f D vs τ Post O O')).s.toks →
    (∀ v h' g' d' tk' mv',(gnd (pick neC (SpecTB f D vs τ Post O O')).s.heap (pick neC (SpecTB f D vs τ Post O O')).mv).StaysIn h'→(pick neC (SpecTB f D vs τ Post O O')).s.heap.objs.size≤h'.objs.size→MvOut (gnd (pick neC (SpecTB f D vs τ Post O O')).s.heap (pick neC (SpecTB f D vs τ Post O O')).mv) h' mv'→O' mv'→AllBare g'→Post (gnd (pick neC (SpecTB f D vs τ Post O O')).s.heap (pick neC (SpecTB f D vs τ Post O O')).mv) v h'→(pick neC (SpecTB f D vs τ Post O O')).Q v { heap:=h',gens:=g',drawn:=d',toks:=tk',os:=(pick neC (SpecTB f D vs τ Post O O')).s.os }) →
    wpAny (model (pick neC (SpecTB f D vs τ Post O O')).prog (pick neC (SpecTB f D vs τ Post O O')).w) ⟨none,(pick neC (SpecTB f D vs τ Post O O')).dp,some ((pick neC (SpecTB f D vs τ Post O O')).env::(pick neC (SpecTB f D vs τ Post O O')).outer),(pick neC (SpecTB f D vs τ Post O O')).gd,(pick neC (SpecTB f D vs τ Post O O')).un⟩ (call (.ref f) vs) (pick neC (SpecTB f D vs τ Post O O')).Q (pick neC (SpecTB f D vs τ Post O O')).E (pick neC (SpecTB f D vs τ Post O O')).s):SpecT f D vs τ Post O O':=by
  have h2:∀ c,SpecTB f D vs τ Post O O' c:=pickI (n:=neC) h
  intros prog w p loose mean mg mb A env outer A₀ base h₀ L m s Q E mv B F Nm hO X T hG hhd hA hf hke hdp hun hpre hret
  obtain ⟨hd0,dp,fr,gd,un⟩:=A
  dsimp only at hhd hA hdp hun;subst hhd hA
  k_extra "r4"
section
variable {prog:Program} {w:World} {A:Around} {E:Value→Shared→Prop} {s:Shared} {h₀:Heap} {L D:Addr} {m:Str→Option Value} {news:List (Addr×Obj)} {its:Array Value} {n:Nat}
theorem listN (N:News h₀ L s.heap news) (hD:(D,listOf its n)∈news) : s.heap.IsList D its:=⟨_,(N _ hD).1,rfl,n,rfl⟩
theorem truthLF {Q:Bool→Shared→Prop} (N:News h₀ L s.heap news) (hD:(D,listOf its n)∈news) (e:Fct (its.isEmpty=true)) (hz : its.size≤100) (h:∀ tk,Q false { s with toks:=tk }) : wpAny (model prog w) A (truthy (.ref D)) Q E s :=
  wpAny_truthy_list (listN N hD) (by omega) (by rw [e.out];exact h _)
theorem truthLT {Q:Bool→Shared→Prop} (N:News h₀ L s.heap news) (hD:(D,listOf its n)∈news) (e:Fct (its.isEmpty=false)) (hz : its.size≤100) (h:∀ tk,Q true { s with toks:=tk }) : wpAny (model prog w) A (truthy (.ref D)) Q E s :=
  wpAny_truthy_list (listN N hD) (by omega) (by rw [e.out];exact h _)
theorem itemLast {value slice : PySem.Expr} {u : Tok} {x : Value} {Q : Value → Shared → Prop} (N : News h₀ L s.heap news) (hD : (D, listOf its n) ∈ news) (e : Fct (its.back? = some x)) (h : Q x s)
    (hs : subscripted slice false (.ref D) (.int (-1) u)=operate [.ref D,.int (-1) u] (getItem (.ref D) (.int (-1) u)):=by with_unfolding_all rfl) :
    wpAny (model prog w) A (subscriptTail value slice (.ref D) (.int (-1) u)) Q E s:=by
  have hl:=listN N hD
  have e':=e.out
  have hp : 0 < its.size:=by
    cases hz : its.size with
    | zero=>rw [Array.back?_eq_getElem?,hz] at e';simp [hz] at e'
    | succ k=>omega
  refine tail_any hl.typeIs slot_list_getitem.lookup (wpAny_getItem_list_neg hl (by decide) (by omega) (by decide) ?_ h) hs
  rw [← e',Array.back?_eq_getElem?]
  congr 1
  omega
theorem isNotSame {x y:Str} {t:Tok} {Q:Value→Shared→Prop} (h0 : t≠0) (h:Q (.bool false) s) : wpAny (model prog w) A (compareOp .IsNot (.str x t) (.str y t)) Q E s:=by
  have e : isSame (.str x t) (.str y t)=pure true:=by
    show isSame.created (x == y) t t=_
    unfold isSame.created
    have e1:(t == 0 || t == 0)=false:=by simp [h0]
    rw [e1]
    simp
  show wpAny _ _ (isSame (.str x t) (.str y t) >>= fun r=>pure (Value.bool (!r))) _ _ _
  rw [e]
  exact wpAny_pure h
theorem isNotOther {x y:Str} {t u:Tok} {Q:Value→Shared→Prop} (h0 : t≠0) (h1 : u≠0) (h2 : t≠u) (hx:(x == y)=false) (h:Q (.bool true) s) : wpAny (model prog w) A (compareOp .IsNot (.str x t) (.str y u)) Q E s:=by
  have e : isSame (.str x t) (.str y u)=pure false:=by
    show isSame.created (x == y) t u=_
    unfold isSame.created
    have e1:(t == 0 || u == 0)=false:=by simp [h0,h1]
    have e2:(t == u)=false:=by simp [h2]
    rw [e1,e2,hx]
    simp
  show wpAny _ _ (isSame (.str x t) (.str y u) >>= fun r=>pure (Value.bool (!r))) _ _ _
  rw [e]
  exact wpAny_pure h
end
theorem Its.last {ts:Tok} {vs:List Value} {ps:List Str} (h:Its ts vs ps):(vs=[]∧ps=[])∨(∃ us qs,vs=us++[.str many ts]∧ps=qs++[many])∨(∃ us qs x t,vs=us++[.str x t]∧ps=qs++[x]∧x≠many∧ts < t):=by
  cases h with
  | nil=>exact .inl ⟨rfl,rfl⟩
  | star h=>exact .inr (.inl ⟨_,_,rfl,rfl⟩)
  | other x t hx ht h=>exact .inr (.inr ⟨_,_,x,t,rfl,rfl,hx,ht⟩)
structure BndAt (b D : Addr) : Prop where
  mk ::
section
variable {M:Model} {A:Around} {E:Value→Shared→Prop} {s:Shared} {env:Env}
theorem callWith_bnd {pos : Pos} {b D : Addr} {e : PySem.Expr} {rest : List PySem.Expr} {Q : Value → Shared → Prop} (_ : BndAt b D)
    (h : wpAny M A (spliced (backTo pos (starEach (e::rest) env))) (fun vs s₁=>s₁.heap.get? b=some (boundO D)∧wpAny M A (call (.ref b) vs) Q E s₁) E s)
    (he : starEach (e::rest) env=(false,eval e env)::starEach rest env:=by rfl)
    (hplain:(backTo pos (starEach rest env)).any (·.1)=false:=by rfl) :
    wpAny M A (callWith pos (.ref b) [] (backTo pos (starEach (e::rest) env)) []) Q E s:=by
  rw [he] at h ⊢
  have hp:(backTo pos ((false,eval e env)::starEach rest env)).any (·.1)=false:=by show (false || (backTo pos (starEach rest env)).any (·.1))=false;rw [hplain];rfl
  have h2 : wpAny M A (evalArgs (.ref b) true (backTo pos ((false,eval e env)::starEach rest env)) []) (fun a s₁=>s₁.heap.get? b=some (boundO D)∧wpAny M A (call (.ref b) ([]++a.pos) a.kw) Q E s₁) E s:=Calls.evalArgs_plain h
  unfold callWith
  refine wpAny_bind (wpAny_holding (wpAny_mono h2 (fun a s₁ h₁=>wpAny_bind (wpAny_standAt ?_)) fun _ _ x=>x))
  simp only [hp,List.any_nil,Bool.or_false]
  refine wpAny_bind (m:=keeperOf (.ref b)) ?_
  unfold keeperOf
  refine wpAny_bind (wpAny_load h₁.1 ?_)
  dsimp only
  rw [if_pos (by decide),if_pos (by decide)]
  refine wpAny_pure ?_
  exact wpAny_bind (wpAny_mono h₁.2 (fun r s₂ hr=>wpAny_bind (wpAny_holding (wpAny_point (wpAny_pure hr)))) fun _ _ x=>x)
end
example:True:=by
  k_with "of"=>apply Lx.l610<;>assumption
  k_with "oltI"=>apply Lx.l558<;>assumption
  k_with "oltI"=>apply Lx.l577<;>assumption
  k_with "ox"=>apply Lx.l88
  k_with "oeqN"=>apply Lx.l174<;>assumption
  k_with "oleI"=>apply Lx.l612<;>assumption
  k_with "oleI"=>apply Lx.l611<;>assumption
  trivial
theorem triples_snoc : ∀ (l : List Value) (a b : Int) (t u : Tok) (c : Value), TriplesOk l → TriplesOk (l ++ [.int a t, .int b u, c])
  | [],_,_,_,_,_,_=>True.intro
  | .int _ _::.int _ _::_::rest,a,b,t,u,c,h=>triples_snoc rest a b t u c h
theorem aSO {p q : Pos} (hpq : (p.line == q.line && p.col == q.col) = false) (c : Value) : ∀ (l : List Value), TriplesOk l → codeAmong q (l ++ [rawInt p.line, rawInt p.col, c]) = codeAmong q l
  | [],_=>by
    simp only [List.nil_append,codeAmong,rawInt]
    have:(((p.line:Int) == (q.line:Int)) && ((p.col:Int) == (q.col:Int)))=false:=by
      rw [← hpq]
      congr 1<;>(rw [Bool.eq_iff_iff];simp;omega)
    rw [this]
    rfl
  | .int _ _::.int _ _::_::rest,h=>by
    simp only [List.cons_append,codeAmong]
    rw [aSO hpq c rest h]
section
variable {M : Model} {A : Around} {E : Value → Shared → Prop} {s : Shared} {h₀ : Heap} {L a c P : Addr} {m mg mb : Str → Option Value} {cn : Str} {cs : Scope} {ccd : Value} {cl : List (Str × Addr)} {news : List (Addr × Obj)} {g : Obj → List (Addr × Obj)}
  {p:Program} {loose:List Str} {mean:ExcName→Option Value} {name qual:Str} {params:Arguments} {body:PySem.Expr} {scope:Scope} {ps:Array Value} {pos pg:Pos} {firstLine:Nat} {clos:List (Str×Addr)}
theorem lamT {Q : Value → Shared → Prop} (F : Fr h₀ L s.heap m) (N : News h₀ L s.heap news) (T : Top p loose mean mg mb h₀) (C : CodeHd h₀ c P) (hcd : ccd = .ref c) (U : UpdF P (tabObj ps) news g) (h57 : T57 pos pg ps) (hpg : (pos.line == pg.line && pos.col == pg.col) = false)
    (hcl : closureFor scope (envX cn cs L a ccd cl)=pure clos)
    (h:∀ f o h' tk ps',o.cls=.type "function"→T57 pos pg ps'→Fr h₀ L h' m→News h₀ L h' ((f,o)::g (tabObj ps'))→(∀ q∈news,q.1 < f)→Q (.ref f) { s with heap:=h',toks:=tk }) :
    wpAny M A (makeFunction name qual params (.expr body) scope (envX cn cs L a ccd cl) [] [] [] pos firstLine) Q E s:=by
  rcases h57.lam with hn | ⟨c',hn⟩
  · refine kla_nest F N T C hcd U h57.tri hn hcl fun f c' oc vs t ctv h' tk F' N' _ _ h1 h2 => h f (kla_obj name qual params body scope clos ((mg "__name__").getD .none) c' ctv) h' tk (ps ++ #[rawInt pos.line, rawInt pos.col, .ref c']) rfl ⟨?_, .inr ⟨c', ?_⟩, ?_⟩ F' (fun q hq => N' q ?_) fun q hq => Nat.lt_trans (h1 q hq) h2
    · simpa [rawInt] using triples_snoc ps.toList pos.line pos.col 0 0 (.ref c') h57.tri
    · simpa using codeAmong_snoc ps.toList h57.tri hn
    · have e := aSO hpg (.ref c') ps.toList h57.tri
      k_extra "r5"
      rw [e2,e]
      exact h57.gen
    · rcases List.mem_cons.mp hq with rfl | hq
      · exact .head _
      · exact .tail _ (.tail _ hq)
  · obtain ⟨pre, post, rfl, hg, _, _⟩ := U.split
    refine kla_hit F N T C hcd (List.mem_append_right _ (.head _)) h57.tri hn hcl fun f ctv h' tk F' N' h1=>h f (kla_obj name qual params body scope clos ((mg "__name__").getD .none) c' ctv) h' tk ps rfl h57 F' ?_ h1
    rw [hg]
    exact N'
end
section
open PySem.Builtin PySem.Builtin.Str
variable {prog:Program} {w:World} {A:Around} {E:Value→Shared→Prop} {s:Shared} {x y z:Str} {t u v:Tok} {Q:Value→Shared→Prop}
theorem replaceNo (e:Fct ((occurrences x y 0 x.length (x.length+1)).isEmpty=true)) (hq:Q (.str x t) s) : wpAny (model prog w) A (call (.builtin "str.replace") [.str x t,.str y u,.str z v]) Q E s:=by
  have hc:((occurrences x y 0 x.length (x.length+1)).isEmpty || (y.length == 0 && z.length == 0))=true:=by rw [e.out];rfl
  refine call_gives PySem.F.slot_str_replace (typeIs_str _ _ _) PySem.F.entry_str_replace (PySem.F.args_str_replace_3 _ _ _) (gives_str_replace x y z t u v fun h=>by rw [hc] at h;cases h) ?_
  rw [if_pos hc]
  exact hq
theorem plain_pat:PlainAttrs "re.Pattern" :=
  ⟨⟨"object.__getattribute__",by rw [typeLookup_type,builtinLookup_eq_fast];kernel_rfl,by decide +kernel⟩,by rw [typeLookup_type,builtinLookup_eq_fast];kernel_rfl⟩
theorem gmSub {M:Model} {pl:Sem Bool} {Q:Value×List Value→Shared→Prop} {o:Obj} (ho : s.heap.get? 43=some o) (hc : o.cls=.type "re.Pattern") (hd : o.dict=none) (h:Q (.builtin "re.Pattern.sub",[.ref 43]) s) : wpAny M A (getMethod (.ref 43) (ofString "sub") pl) Q E s :=
  getMethod_builtin ⟨_,ho,hc⟩ plain_pat slot_sub type_sub (fun a e=>by cases e;exact ⟨_,ho,hd⟩) h
end
section
open PySem.Builtin PySem.Builtin.Str StrLaws
theorem occNo {l:List Nat} {k n:Nat} (h:∀ c∈l,c≠k):(occurrences ⟨l.toArray⟩ ⟨#[k]⟩ 0 (⟨l.toArray⟩:Str).length n).isEmpty=true:=by
  have hs:∀ i,i+1≤l.length→subAt ⟨l.toArray⟩ ⟨#[k]⟩ i=false:=by
    intros i hi
    cases hb : subAt ⟨l.toArray⟩ ⟨#[k]⟩ i with
    | false=>rfl
    | true =>
      have:=(subAt_one ⟨l.toArray⟩ k i).mp ⟨by simpa [Str.length] using hi,hb⟩
      exact absurd rfl (h k (List.mem_of_getElem? (by simpa using this)))
  have hgo:∀ L:List Nat,(forIn L ((#[]:Array Nat),0) (occBody ⟨l.toArray⟩ ⟨#[k]⟩ (⟨l.toArray⟩:Str).length n)).run.fst=#[]:=by
    intros L
    induction L with
    | nil=>rfl
    | cons a L ih =>
      rw [List.forIn_cons]
      unfold occBody
      rw [if_neg]
      · exact ih
      · rintro ⟨⟨_, h2⟩, h3⟩
        have h4 : a+1≤l.length:=by simpa [Str.length] using h2
        rw [hs a h4] at h3
        cases h3
  rw [occ_eq,hgo]
  rfl
end
section
open PySem.Builtin PySem.Builtin.Str
variable {prog:Program} {w:World} {A:Around} {E:Value→Shared→Prop} {s:Shared} {x y:Str} {t u v v2:Tok} {Q:Value→Shared→Prop}
noncomputable def fndIn (x y:Str) (lo hi:Nat):Int:=match occurrences x y lo hi 1 with
  | i::_=>(i:Int)
  | []=>-1
theorem gives_find4 (x y:Str) (i j:Int) (t u v v2:Tok):Gives («str.find» ⟨[.str x t,.str y u,.int i v,.int j v2],[]⟩) (.int (fndIn x y (fromIndex x.length i) (min (fromIndex x.length j) x.length))):=by
  show Gives (match occurrences x y (fromIndex x.length i) (min (fromIndex x.length j) x.length) 1 with | k::_=>retInt k | []=>(do rule "str.find.not-found";retInt (-1))) _
  unfold fndIn
  cases occurrences x y (fromIndex x.length i) (min (fromIndex x.length j) x.length) 1 with
  | nil=>exact .rule (.of_eq rfl)
  | cons k _=>exact .of_eq rfl
theorem fromIndex_nn {n:Nat} {i:Int} (h : 0≤i) : fromIndex n i=i.toNat:=by
  unfold fromIndex
  rw [if_neg (by omega)]
  omega
theorem find4 {i j r : Int} (hi : 0 ≤ i) (hj : 0 ≤ j) (e : Fct (fndIn x y i.toNat (min j.toNat x.length) = r)) (hq : Q (.int r s.toks) { s with toks := s.toks + 1 }) :
    wpAny (model prog w) A (call (.builtin "str.find") [.str x t,.str y u,.int i v,.int j v2]) Q E s :=
  call_gives PySem.F.slot_str_find (typeIs_str _ _ _) PySem.F.entry_str_find (PySem.F.args_str_find_4 _ _ _ _) (gives_find4 x y i j t u v v2) (by rw [fromIndex_nn hi,fromIndex_nn hj,e.out];exact hq)
theorem fnd_none {cs:List Nat} {y:Str} {lo hi:Nat} (h : hi < lo) : fndIn ⟨cs.toArray⟩ y lo hi=-1:=by
  unfold fndIn
  have : occurrences ⟨cs.toArray⟩ y lo hi 1=[]:=by
    rw [StrLaws.occ_eq]
    have e : hi+1 - lo=0:=by omega
    rw [e]
    rfl
  rw [this]
end
section
variable {prog:Program} {w:World} {A:Around} {E:Value→Shared→Prop} {s:Shared} {h₀:Heap} {L D:Addr} {news:List (Addr×Obj)} {its:Array Value} {n:Nat}
theorem itemLit {value slice : PySem.Expr} {k : Int} {u : Tok} {x : Value} {Q : Value → Shared → Prop} (N : News h₀ L s.heap news) (hD : (D, listOf its n) ∈ news) (h0 : 0 ≤ k) (hhi : k < 2 ^ 63) (hx : its[k.toNat]? = some x) (h : Q x s)
    (hs : subscripted slice false (.ref D) (.int k u)=operate [.ref D,.int k u] (getItem (.ref D) (.int k u)):=by with_unfolding_all rfl) :
    wpAny (model prog w) A (subscriptTail value slice (.ref D) (.int k u)) Q E s:=by
  have hl:=listN N hD
  exact tail_any hl.typeIs slot_list_getitem.lookup (wpAny_getItem_list hl h0 hhi hx h) hs
theorem itemA0 {value slice : PySem.Expr} {k : Int} {u : Tok} {x : Value} {l : List Value} {Q : Value → Shared → Prop} (N : News h₀ L s.heap news) (hD : (D, listOf (x :: l).toArray n) ∈ news) (hk : k = 0) (h : Q x s)
    (hs : subscripted slice false (.ref D) (.int k u)=operate [.ref D,.int k u] (getItem (.ref D) (.int k u)):=by with_unfolding_all rfl) :
    wpAny (model prog w) A (subscriptTail value slice (.ref D) (.int k u)) Q E s:=itemLit N hD (by omega) (by omega) (by subst hk;rfl) h hs
theorem itemA1 {value slice : PySem.Expr} {k : Int} {u : Tok} {x y : Value} {l : List Value} {Q : Value → Shared → Prop} (N : News h₀ L s.heap news) (hD : (D, listOf (x :: y :: l).toArray n) ∈ news) (hk : k = 1) (h : Q y s)
    (hs : subscripted slice false (.ref D) (.int k u)=operate [.ref D,.int k u] (getItem (.ref D) (.int k u)):=by with_unfolding_all rfl) :
    wpAny (model prog w) A (subscriptTail value slice (.ref D) (.int k u)) Q E s:=itemLit N hD (by omega) (by omega) (by subst hk;rfl) h hs
end
theorem lt_one {a b:Nat}:([a] < [b])↔a < b:=by
  constructor
  · intros h
    have h':List.Lex (· < ·) [a] [b]:=h
    cases h' with
    | rel h=>exact h
    | cons h=>cases h
  · intros h
    exact List.Lex.rel h
example:True:=by
  k_with "oltN"=>apply Lx.l122<;>assumption
  trivial
noncomputable def GJ (prog:Program) (w:World) (A:Around) (L:Addr) (news:List (Addr×Obj)) (tx:Nat→Str) (n:Nat) (a:Addr) (s:Shared):Prop :=
  ∃ K,L≤K∧(∀ p∈news,p.1≤K)∧Gen prog w A K a (passing (fun _=>true) n 0).length (fun j y=>∃ i,(passing (fun _=>true) n 0)[j]?=some i∧∃ u,y=.str (tx i) u) s
theorem pass_all (k:Nat) : passing (fun _=>true) k 0=List.range k:=by unfold passing;simp
section
variable {prog : Program} {w : World} {A : Around} {E : Value → Shared → Prop} {s : Shared} {h₀ : Heap} {L a c P l : Addr} {m mg mb : Str → Option Value} {news : List (Addr × Obj)} {g : Obj → List (Addr × Obj)}
  {p:Program} {loose:List Str} {mean:ExcName→Option Value} {ps:Array Value} {pos pl:Pos} {its:Array Value} {n:Nat}
theorem join_N {sep : Str} {t : Tok} {tx : Nat → Str} {k : Nat} {Q : Value → Shared → Prop} (F : Fr h₀ L s.heap m) (N : News h₀ L s.heap news) (G : AllBare s.gens) (X : GJ prog w A L news tx k a s) (hok : JoinOk sep ((List.range k).map tx) = true)
    (hQ:∀ h' g' d' t' tk',Fr h₀ L h' m→News h₀ L h' news→AllBare g'→Q (.str (Txt.join sep ((List.range k).map tx)) t') { heap:=h',gens:=g',drawn:=d',toks:=tk',os:=s.os }) (hsz : k≤sizeLine) :
    wpAny (model prog w) A (call (.builtin "str.join") [.str sep t,.ref a]) Q E s:=by
  obtain ⟨K,hLK,hnK,X⟩:=X
  rw [pass_all,List.length_range] at X
  refine join_rowsK F G X hLK tx (fun j v hv=>by
    obtain ⟨i,hi,u,e⟩:=hv
    have hj : i=j:=by
      rw [List.getElem?_eq_some_iff] at hi
      obtain ⟨h1,h2⟩:=hi
      simpa using h2.symm
    exact ⟨u,by rw [e,hj]⟩) hok (fun s' t' F' G' hos hk=>?_) hsz
  have:=hQ s'.heap s'.gens s'.drawn t' s'.toks F' (fun q hq=>⟨hk _ _ (hnK q hq) (N q hq).1,(N q hq).2⟩) G'
  rw [← hos] at this
  exact this
theorem gen_N {env : Env} {elt iter : PySem.Expr} {x : Str} {px : Pos} {scope : Scope} {cl : List (Str × Addr)} {Q : Value → Shared → Prop} {tx : Nat → Str}
    (F:Fr h₀ L s.heap m) (N:News h₀ L s.heap news) (T:Top p loose mean mg mb h₀) (G:AllBare s.gens) (C:CodeHd h₀ c P) (hcode : env.code=.ref c) (hglob : env.globals=mainGlobals) (U:UpdF P (tabObj ps) news g) (h57:T57 pl pos ps) (hpl:(pos.line == pl.line && pos.col == pl.col)=false)
    (hl:(l,listOf its n)∈news) (hlP : l≠P)
    (hname:∀ Q':Value→Shared→Prop,Q' (.ref l) s→wpAny (model prog w) A (eval iter env) Q' E s)
    (hh:A.handled=none) (hco : scope.isCoroutine=false) (hclos : closureFor scope env=pure cl) (hcell:∀ y∈scope.names,y.2≠.cell) (h0 : scope.names.lookup (".0":Str)=some NameKind.local)
    (hx : scope.names.lookup x=some .local) (hkind : scope.kind=.function) (hroom:A.depth < recursionLimit)
    (quiet:∀ code (h₃ href:Heap),QuietGen prog w (genEnv scope cl h₃.objs.size code builtinsNs env) x [] elt (List.range h₃.objs.size) [s.heap.objs.size] (fun i v=>its[i]?=some v) (fun _=>true) (fun i v=>∃ u,v=.str (tx i) u) href)
    (h:∀ b h' g' tk ps',T57 pl pos ps'→Fr h₀ L h' m→News h₀ L h' (g (tabObj ps'))→AllBare g'→GJ prog w A L (g (tabObj ps')) tx its.size b { heap:=h',gens:=g',drawn:=s.drawn,toks:=tk,os:=s.os }→Q (.ref b) { heap:=h',gens:=g',drawn:=s.drawn,toks:=tk,os:=s.os })
    (hs:∀ x,genFold iter env x=pure x) :
    wpAny (model prog w) A (eval (.GeneratorExp elt [⟨.Name x px,iter,[],0⟩] scope pos) env) Q E s:=by
  have hlist:=listN N hl
  have hlt : l < s.heap.objs.size:=Heap.lt_size (N _ hl).1
  obtain ⟨own,rest,hne,hgr,a1,a2⟩:=U.split
  have hm:=N (P,tabObj ps) (by rw [hne];exact List.mem_append_right _ (.head _))
  have hPlt:P < s.heap.objs.size:=Heap.lt_size hm.1
  refine wpAny_GeneratorExp_walksQ hh hco hclos hcell h0 hx hkind hroom (hname _ (wpAny_pyIter_list hlist ?_)) hs
  have hgs:=T.g.keeps F.keep
  obtain ⟨bm,ob,b1,b2,b3,b4,b5,b6⟩:=T.bmain
  have hgP : mainGlobals≠P:=fun q=>by
    obtain ⟨o,es,ep,e,hd,_⟩:=hgs
    rw [q,hm.1] at e;cases e;cases hd
  have hbP : bm≠P:=fun q=>by
    have e:=F.keep _ _ b3
    rw [q,hm.1] at e;cases e;cases b4
  have hbG : bm≠mainGlobals:=fun q=>by
    obtain ⟨o,es,ep,e,hd,_⟩:=T.g
    rw [q,e] at b3;cases b3;rw [hd] at b6;cases b6
  have hlim:=T.nolimit.keeps F.keep
  have hcP : cStatics≠P:=fun e=>by
    obtain ⟨_,hns,_⟩:=hlim
    obtain ⟨o,es,ep,ho,hd,_⟩:=hns
    rw [e,hm.1] at ho;cases ho;cases hd
  have hclt : cStatics < s.heap.objs.size:=by obtain ⟨_,hn,_⟩:=hlim;exact hn.lt
  have hpush:∀ b o,s.heap.get? b=some o→(s.heap.push { cls:=.type "list_iterator",data:=.fields #[.ref l,.int 0 0] }).get? b=some o:=fun b o e=>Heap.get?_push_of_some _ e
  have hps:(s.heap.push { cls:=.type "list_iterator",data:=.fields #[.ref l,.int 0 0] }).objs.size=s.heap.objs.size+1:=by rw [Heap.size_push]
  have hit:(s.heap.push { cls:=.type "list_iterator",data:=.fields #[.ref l,.int 0 0] }).IsListIter s.heap.objs.size l 0:=⟨_,Heap.get?_push_size _ rfl,rfl,rfl⟩
  have hl2:=hlist.push { cls:=.type "list_iterator",data:=.fields #[.ref l,.int 0 0] }
  have hlim2:=hlim.push { cls:=.type "list_iterator",data:=.fields #[.ref l,.int 0 0] }
  have hg2:=hgs.push { cls:=.type "list_iterator",data:=.fields #[.ref l,.int 0 0] }
  generalize hH : s.heap.push { cls:=.type "list_iterator",data:=.fields #[.ref l,.int 0 0] }=H at *
  have fin:∀ (code:Value) (h₃:Heap) (tk₃:Nat) (ps':Array Value),T57 pl pos ps'→(∀ b o,b≠P→H.get? b=some o→h₃.get? b=some o)→h₃.get? P=some (tabObj ps')→H.objs.size≤h₃.objs.size →
      wpAny (model prog w) A (builtinsFor env.globals env.builtins) (fun bi s₄ =>
        ∃ I fp wr n₀ P St₀ pz F, Value.ref s.heap.objs.size = .ref I ∧ (∀ A' : Around, A'.handled = none → Walks prog w A' I fp wr n₀ P St₀) ∧ St₀ 0 s₄.heap ∧ (∀ b ∈ fp, b < s₄.heap.objs.size) ∧ s₄.heap.NoLimit ∧ cStatics ∉ wr ∧
          (∀ href:Heap,(∀ b o,s₄.heap.get? b=some o→href.get? b=some o) →
            QuietGen prog w (genEnv scope cl s₄.heap.objs.size code bi env) x [] elt (List.range s₄.heap.objs.size) wr P pz F href) ∧
          (∀ a h₅ tk gs,gs.bare=true→s₄.heap.objs.size < a→h₅.objs.size=a+1→(∀ b o,s₄.heap.get? b=some o→h₅.get? b=some o) →
            WalksS prog w A.in4 a (a :: s₄.heap.objs.size :: List.range s₄.heap.objs.size) (s₄.heap.objs.size :: wr) (GenOnlyQ s₄.gens.size) (passing pz n₀ 0).length
              (fun j y=>∃ i,(passing pz n₀ 0)[j]?=some i∧F i y) (GenAt prog w A.in4 a s₄.gens.size s₄.heap.objs.size (List.range s₄.heap.objs.size) wr pz n₀ F) →
            GenAt prog w A.in4 a s₄.gens.size s₄.heap.objs.size (List.range s₄.heap.objs.size) wr pz n₀ F 0 { s₄ with gens:=s₄.gens.push gs,toks:=tk,heap:=h₅ } →
            Q (.ref a) { s₄ with gens:=s₄.gens.push gs,toks:=tk,heap:=h₅ })) E { heap:=h₃,gens:=s.gens,drawn:=s.drawn,toks:=tk₃,os:=s.os }:=by
    intros code h₃ tk₃ ps' h57' hx₃ hP₃ hsz₃
    rw [hglob]
    have hg3 : h₃.Ns mainGlobals mg:=hg2.at' fun o e=>hx₃ _ _ hgP e
    refine wpAny_builtinsFor hg3 b1 b2 (hx₃ _ _ hbP (hpush _ _ (F.keep _ _ b3))) b4 b5 b6 ?_
    have hIlt : s.heap.objs.size < h₃.objs.size:=Nat.lt_of_lt_of_le (by rw [hps];exact Nat.lt_succ_self _) hsz₃
    have hIP : s.heap.objs.size≠P:=Nat.ne_of_gt hPlt
    have hpass:∀ k,passing (fun _=>true) k 0=List.range k:=fun k=>by unfold passing;simp
    refine ⟨s.heap.objs.size,[s.heap.objs.size,l],[s.heap.objs.size],its.size,_,_,fun _=>true,fun i v=>∃ u,v=.str (tx i) u,rfl,(fun A' hA=>Walks.list hA _ _ (Nat.ne_of_lt hlt) its),?_,?_,?_,?_,fun href _=>quiet code h₃ href,?_⟩
    · exact ⟨hit.at fun o e=>hx₃ _ _ hIP e,hl2.at fun o e=>hx₃ _ _ hlP e⟩
    · intros b hb
      rcases List.mem_cons.mp hb with rfl | hb
      · exact hIlt
      · rw [List.mem_singleton.mp hb];exact Nat.lt_trans hlt hIlt
    · obtain ⟨mc, hn, r⟩ := hlim2
      exact ⟨mc,hn.at' fun o e=>hx₃ _ _ hcP e,r⟩
    · intros hmem
      exact absurd hclt ((List.mem_singleton.mp hmem) ▸ Nat.lt_irrefl _)
    · intros b h₅ tk gs hgb hag hsz₅ hk₅ W hat
      have old:∀ q∈own++rest,h₅.get? q.1=some q.2∧q.1≠L∧h₀.get? q.1=none:=fun q hq=>by
        have hqn : q∈news:=by
          rw [hne]
          rcases List.mem_append.mp hq with hq | hq
          · exact List.mem_append_left _ hq
          · exact List.mem_append_right _ (.tail _ hq)
        have hqP : q.1≠P:=by
          rcases List.mem_append.mp hq with hq | hq
          · exact a1 q hq
          · exact a2 q hq
        exact ⟨hk₅ _ _ (hx₃ _ _ hqP (hpush _ _ (N q hqn).1)),(N q hqn).2⟩
      have N5:News h₀ L h₅ (g (tabObj ps')):=fun q hq=>by
        rw [hgr] at hq
        rcases List.mem_append.mp hq with hq | hq
        · exact old q (List.mem_append_left _ hq)
        · rcases List.mem_cons.mp hq with rfl | hq
          · exact ⟨hk₅ _ _ hP₃,hm.2⟩
          · exact old q (List.mem_append_right _ hq)
      have F5:Fr h₀ L h₅ m:=⟨F.ns.at' fun o e=>hk₅ _ _ (hx₃ _ _ hm.2.1.symm (hpush _ _ e)),fun b o e=>hk₅ _ _ (hx₃ _ _ (fun q=>by rw [q,hm.2.2] at e;cases e) (hpush _ _ (F.keep b o e))),F.above⟩
      refine h b h₅ _ tk ps' h57' F5 N5 (G.push hgb) ⟨s.heap.objs.size - 1,Nat.le_sub_one_of_lt F.ns.lt,fun q hq=>?_,⟨_,_,_,_,W,hat,(fun i s' st=>st.1.typeIs),List.mem_cons_self,?_,?_⟩⟩
      · have hqn : q.1 < s.heap.objs.size:=by
          rw [hgr] at hq
          rcases List.mem_append.mp hq with hq | hq
          · exact Heap.lt_size (N q (by rw [hne];exact List.mem_append_left _ hq)).1
          · rcases List.mem_cons.mp hq with rfl | hq
            · exact hPlt
            · exact Heap.lt_size (N q (by rw [hne];exact List.mem_append_right _ (.tail _ hq))).1
        exact Nat.le_sub_one_of_lt hqn
      · intros d hd
        show d < h₅.objs.size
        rw [hsz₅]
        rcases List.mem_cons.mp hd with rfl | hd
        · exact Nat.lt_succ_self _
        · rcases List.mem_cons.mp hd with rfl | hd
          · exact Nat.lt_succ_of_lt hag
          · exact Nat.lt_succ_of_lt (Nat.lt_trans (List.mem_range.mp hd) hag)
      · intros d hd
        rcases List.mem_cons.mp hd with rfl | hd
        · show _ < h₃.objs.size
          omega
        · rw [List.mem_singleton.mp hd];exact Nat.sub_lt (Nat.lt_of_le_of_lt (Nat.zero_le _) hlt) Nat.one_pos
  refine ⟨hlim2,?_⟩
  have hP2:H.get? P=some (tabObj ps):=hpush _ _ hm.1
  have Cs:CodeHd H c P:=(C.keeps F.keep).keeps hpush
  rcases h57.gen with hn | ⟨c',hn⟩
  · refine wpAny_genexprCodeX hcode (Cs.code hP2 h57.tri) (Cs.tab hP2) hn fun c' h₃ tk₃ hx₃ hge hlt _ _ htab₃ _ => fin (.ref c') h₃ tk₃ (ps ++ #[rawInt pos.line, rawInt pos.col, .ref c']) ⟨?_, ?_, .inr ⟨c', ?_⟩⟩ hx₃ htab₃.2 (Nat.le_trans hge (Nat.le_of_lt hlt))
    · simpa [rawInt] using triples_snoc ps.toList pos.line pos.col 0 0 (.ref c') h57.tri
    · have e := aSO hpl (.ref c') ps.toList h57.tri
      k_extra "r5"
      rw [e2,e]
      exact h57.lam
    · simpa using codeAmong_snoc ps.toList h57.tri hn
  · exact wpAny_genexprCode_hit hcode (Cs.code hP2 h57.tri) hn (fin (.ref c') H s.toks ps h57 (fun _ _ _ e=>e) hP2 (Nat.le_refl _))
end
theorem join_NE {prog : Program} {w : World} {A : Around} {E : Value → Shared → Prop} {s : Shared} {h₀ : Heap} {L a : Addr} {m : Str → Option Value} {news : List (Addr × Obj)} {sep r : Str} {t : Tok} {tx : Nat → Str} {k : Nat} {Q : Value → Shared → Prop} (e : Fct (Txt.join sep ((List.range k).map tx) = r)) (hok : Fct (JoinOk sep ((List.range k).map tx) = true)) (F : Fr h₀ L s.heap m) (N : News h₀ L s.heap news) (G : AllBare s.gens) (X : GJ prog w A L news tx k a s)
    (hQ:∀ h' g' d' t' tk',Fr h₀ L h' m→News h₀ L h' news→AllBare g'→Q (.str r t') { heap:=h',gens:=g',drawn:=d',toks:=tk',os:=s.os }) (hsz : k≤sizeLine) :
    wpAny (model prog w) A (call (.builtin "str.join") [.str sep t,.ref a]) Q E s:=join_N F N G X hok.out (fun h' g' d' t' tk' F' N' G'=>by rw [e.out];exact hQ h' g' d' t' tk' F' N' G') hsz
section
variable {prog:Program} {w:World} {E:Value→Shared→Prop}
open PySem.Builtin PySem.Builtin.Str
theorem repl_step {A : Around} {s : Shared} {env : Env} {o : PySem.Expr} {p1 p2 p3 p4 : Pos} {k1 k2 : Nat} {x y z : Str} {t : Tok} {Q : Value → Shared → Prop} (h0 : wpAny (model prog w) A (eval o env) (fun v s₁ => v = .str x t ∧ Keeps s s₁) E s)
    (e:Fct ((occurrences x y 0 x.length (x.length+1)).isEmpty=true)) (hQ:∀ s₁,Keeps s s₁→Q (.str x t) s₁) {pl:Sem Bool}
    (he : eval (.Call (.Attribute o (ofString "replace") p1) [.Constant (.str y) k1 p2, .Constant (.str z) k2 p3] [] p4) env = (do
      let ov ← eval o env
      standAt p1.atName
      let (f,first) ← holding [ov] (getMethod ov (ofString "replace") pl)
      callWith p4 f first (backTo p4 (starEach [.Constant (.str y) k1 p2,.Constant (.str z) k2 p3] env)) [])) :
    wpAny (model prog w) A (eval (.Call (.Attribute o (ofString "replace") p1) [.Constant (.str y) k1 p2,.Constant (.str z) k2 p3] [] p4) env) Q E s:=by
  refine MethodCall_ (pl:=pl) (wpAny_mono h0 (fun v s₁ h₁=>?_) fun _ _ e=>e) he
  obtain ⟨rfl,hk⟩:=h₁
  refine GM.of (.str x t) (typeIs_str _ _ _) PySem.F.slot_str_replace PySem.F.type_str_replace GM.noRef ?_
  refine callWith_method1 ?_
  refine Calls.spliced_cons (Calls.Constant_str (k:=k1) (pos:=p2) (Calls.spliced_cons (Calls.Constant_str (k:=k2) (pos:=p3) (Calls.spliced_nil ?_))))
  refine replaceNo e (hQ _ ?_)
  obtain ⟨h',tk,rfl,hkk⟩:=hk
  exact ⟨h',_,rfl,hkk⟩
theorem quiet_repl {scope : Scope} {cl : List (Str × Addr)} {C : Addr} {code : Value} {bi : Addr} {env : Env} {x : Str} {p0 p1 p2 p3 p4 q1 q2 q3 q4 : Pos} {k1 k2 l1 l2 : Nat} {ya za yb zb : Str} {its : Array Value} {tx : Nat → Str} {fp wr : List Addr} {href : Heap} {pl1 pl2 : Sem Bool}
    (he1 : ∀ env' : Env, env' = genEnv scope cl C code bi env → eval (.Call (.Attribute (.Name x p0) (ofString "replace") p1) [.Constant (.str ya) k1 p2, .Constant (.str za) k2 p3] [] p4) env' = (do
      let ov ← eval (.Name x p0) env'
      standAt (p1:Pos).atName
      let (f,first) ← holding [ov] (getMethod ov (ofString "replace") pl1)
      callWith p4 f first (backTo p4 (starEach [.Constant (.str ya) k1 p2,.Constant (.str za) k2 p3] env')) []))
    (he2 : ∀ env' : Env, env' = genEnv scope cl C code bi env → eval (.Call (.Attribute (.Call (.Attribute (.Name x p0) (ofString "replace") p1) [.Constant (.str ya) k1 p2, .Constant (.str za) k2 p3] [] p4) (ofString "replace") q1) [.Constant (.str yb) l1 q2, .Constant (.str zb) l2 q3] [] q4) env' = (do
      let ov ← eval (.Call (.Attribute (.Name x p0) (ofString "replace") p1) [.Constant (.str ya) k1 p2,.Constant (.str za) k2 p3] [] p4) env'
      standAt (q1:Pos).atName
      let (f,first) ← holding [ov] (getMethod ov (ofString "replace") pl2)
      callWith q4 f first (backTo q4 (starEach [.Constant (.str yb) l1 q2,.Constant (.str zb) l2 q3] env')) []))
    (hk0:(genEnv scope cl C code bi env).scope.kind=.function) (hx:(genEnv scope cl C code bi env).kindOf x=some .local) (hnd:(x == ("__debug__":Str))=false)
    (hits:∀ (i:Nat) (v:Value),its[i]?=some v→∃ u,v=Value.str (tx i) u) (e1:∀ i,i < its.size→(occurrences (tx i) ya 0 (tx i).length ((tx i).length+1)).isEmpty=true) (e2:∀ i,i < its.size→(occurrences (tx i) yb 0 (tx i).length ((tx i).length+1)).isEmpty=true) :
    QuietGen prog w (genEnv scope cl C code bi env) x [] (.Call (.Attribute (.Call (.Attribute (.Name x p0) (ofString "replace") p1) [.Constant (.str ya) k1 p2,.Constant (.str za) k2 p3] [] p4) (ofString "replace") q1) [.Constant (.str yb) l1 q2,.Constant (.str zb) l2 q3] [] q4) fp wr (fun i v=>its[i]?=some v) (fun _=>true) (fun i v=>∃ u,v=Value.str (tx i) u) href where
  tests:=fun A' E' i v s₂ m₂ _ _ _ _ _=>by
    rw [List.forIn_nil]
    exact wpAny_pure ⟨rfl,s₂.heap,s₂.toks,rfl,fun _ _ e=>e⟩
  elt:=fun A' E' i v s₂ m₂ hA hi _ hn hm hk=>by
    obtain ⟨u,rfl⟩:=hits i v hi
    have hlt : i < its.size:=by
      rw [Array.getElem?_eq_some_iff] at hi
      exact hi.1
    refine repl_step (x:=tx i) (t:=u) ?_ ⟨e2 i hlt⟩ (fun s₁ hk=>⟨⟨u,rfl⟩,hk⟩) (he2 _ rfl)
    refine repl_step (x:=tx i) (t:=u) ?_ ⟨e1 i hlt⟩ (fun s₁ hk=>⟨rfl,hk⟩) (he1 _ rfl)
    refine wpAny_Name ?_ hnd
    exact wpAny_loadName_local hk0 hx hn hm ⟨rfl,s₂.heap,s₂.toks,rfl,fun _ _ e=>e⟩
end
example:True:=by
  k_with "oeqN"=>apply Lx.l34<;>assumption
  k_with "oltN"=>apply Lx.l56<;>assumption
  k_with "oeqI"=>apply Lx.l394
  k_with "oleI"=>apply Lx.l269
  k_with "oand"=>apply Lx.l66
  k_with "oeqN"=>apply Lx.l26<;>assumption
  k_with "oltI"=>apply Lx.l600
  trivial
section
open PySem.Builtin PySem.Builtin.Str StrLaws
theorem fnd_at {cs:List Nat} {k lo hi:Nat} (h : cs[lo]?=some k) (hlo : lo < hi) (hh : hi≤cs.length) : fndIn ⟨cs.toArray⟩ ⟨#[k]⟩ lo hi=(lo:Int):=by
  have hsub : subAt ⟨cs.toArray⟩ ⟨#[k]⟩ lo=true:=((subAt_one ⟨cs.toArray⟩ k lo).mpr (by simpa using h)).2
  unfold fndIn
  rw [occ_eq]
  obtain ⟨n,hn⟩:∃ n,hi+1 - lo=n+1:=⟨hi - lo,by omega⟩
  rw [hn,List.range'_succ,List.forIn_cons]
  unfold occBody
  have c1:(((#[]:Array Nat),lo).fst.size < 1∧((#[]:Array Nat),lo).snd≤lo)∧lo+(⟨#[k]⟩:Str).length≤hi:=⟨⟨by simp,Nat.le_refl _⟩,by show lo+1≤hi;omega⟩
  rw [if_pos ⟨c1,hsub⟩]
  have hk:=occ_head_keeps ⟨cs.toArray⟩ ⟨#[k]⟩ hi 1 lo (List.range' (lo+1) n) ((#[]:Array Nat).push lo,lo+(⟨#[k]⟩:Str).length) (by simp)
  show (match (forIn (List.range' (lo+1) n) ((#[]:Array Nat).push lo,lo+(⟨#[k]⟩:Str).length) (occBody ⟨cs.toArray⟩ ⟨#[k]⟩ hi 1)).run.fst.toList with | i::_=>(i:Int) | []=>-1)=_
  generalize (forIn (List.range' (lo+1) n) ((#[]:Array Nat).push lo,lo+(⟨#[k]⟩:Str).length) (occBody ⟨cs.toArray⟩ ⟨#[k]⟩ hi 1)).run.fst=arr at hk
  have h1 : arr.toList[0]?=some lo:=by simpa using hk
  cases hL : arr.toList with
  | nil=>rw [hL] at h1;cases h1
  | cons b t=>rw [hL] at h1;simp at h1;rw [h1]
theorem fnd_seg {cs A Z:List Nat} {k lo hi:Nat} (hc:∃ B,cs=A++(Z++B)) (hk:Z[k]?=some 45) (hlo : lo=A.length+k) (hl : lo < hi) (hh : hi≤cs.length) {r:Int} (hr : r=(lo:Int)) : fndIn ⟨cs.toArray⟩ (ofString "-") lo hi=r:=by
  obtain ⟨B,rfl⟩:=hc
  have hlt : k < Z.length:=by
    rcases Nat.lt_or_ge k Z.length with h | h
    · exact h
    · rw [List.getElem?_eq_none h] at hk;cases hk
  rw [hr]
  refine fnd_at (k:=45) ?_ hl hh
  rw [hlo,List.getElem?_append_right (by omega),Nat.add_sub_cancel_left,List.getElem?_append_left hlt,hk]
theorem occYes {l:List Nat} {k i:Nat} (h : l[i]?=some k):(!!(occurrences ⟨l.toArray⟩ ⟨#[k]⟩ 0 (⟨l.toArray⟩:Str).length 1).isEmpty)=false:=by
  have:(!(occurrences ⟨l.toArray⟩ ⟨#[k]⟩ 0 (⟨l.toArray⟩:Str).length 1).isEmpty)=true:=(found_iff _ _).mpr ⟨i,(subAt_one _ k i).mpr (by simpa using h)⟩
  rw [this];rfl
end
theorem item_last {pre:List Nat} {p:Nat}:Txt.item ⟨(pre++[p]).toArray⟩ (-1)=⟨#[p]⟩:=by
  unfold Txt.item Txt.charAt
  have : seqIndex? (-1) (Str.length ⟨(pre++[p]).toArray⟩)=some pre.length:=by
    unfold seqIndex?
    simp [Str.length]
    omega
  rw [this]
  simp
theorem slice_init {pre:List Nat} {p:Nat}:Txt.slice ⟨(pre++[p]).toArray⟩ none (some (-1))=⟨pre.toArray⟩:=by
  rw [eq_of_beq (slice_closes_to_neg (x:=⟨(pre++[p]).toArray⟩) (j:=-1) (k:=(pre.length:Int)) (by omega) (by simp [Str.length];omega) (by simp [Str.length];omega))]
  simp
theorem hits1 {a:Str} {t1:Tok}:∀ (i:Nat) (v:Value),(#[Value.str a t1])[i]?=some v→∃ u,v=Value.str ((fun _=>a) i) u:=by
  intros i v h
  match i,h with
  | 0,h=>simp at h;exact ⟨t1,h.symm⟩
theorem hits2 {a c:Str} {t1 t2:Tok}:∀ (i:Nat) (v:Value),(#[Value.str a t1,Value.str c t2])[i]?=some v→∃ u,v=Value.str ((fun i=>if i=0 then a else c) i) u:=by
  intros i v h
  match i,h with
  | 0,h=>simp at h;exact ⟨t1,h.symm⟩
  | 1,h=>simp at h;exact ⟨t2,h.symm⟩
theorem join1 {a:Str}:Txt.join (ofString "-") ((List.range 1).map fun _=>a)=a:=by
  show a=a
  rfl
theorem join2 {pre:List Nat} {p q:Nat}:Txt.join (ofString "-") ((List.range 2).map fun i=>if i=0 then (⟨(pre++[p]).toArray⟩:Str) else ⟨#[q]⟩)=⟨(pre++[p,45,q]).toArray⟩:=by
  have e1:ofString "-"=⟨#[45]⟩:=by decide +kernel
  rw [e1]
  show (⟨(pre++[p]).toArray++#[45]++#[q]⟩:Str)=_
  simp
theorem step_le {neg:Bool} {p q:Nat} {ps:List Str} (h : p≤q):(Seg.rng neg p q).step ps=ps++[⟨(91::((if neg then [94] else [])++[p,45,q]++[93])).toArray⟩]:=by
  show ps++[if p≤q then _ else _]=_
  rw [if_pos h]
theorem step_gt0 {p q:Nat} {ps:List Str} (h : q < p):(Seg.rng false p q).step ps=ps++[ofString "(?!)"]:=by
  show ps++[if p≤q then _ else _]=_
  rw [if_neg (Nat.not_le.mpr h)]
  congr 1
theorem step_gt1 {p q:Nat} {ps:List Str} (h : q < p):(Seg.rng true p q).step ps=ps++[ofString "."]:=by
  show ps++[if p≤q then _ else _]=_
  rw [if_neg (Nat.not_le.mpr h)]
  congr 1
theorem noHit_rng {p q:Nat} (h1 : 48≤p∧p≤57) (h2 : 48≤q∧q≤57) : noHit [p,45,q]=true∧noHit [33,p,45,q]=true:=by
  obtain ⟨k,hk,rfl⟩:∃ k,k < 10∧p=48+k:=⟨p - 48,by omega,by omega⟩
  obtain ⟨l,hl,rfl⟩:∃ k,k < 10∧q=48+k:=⟨q - 48,by omega,by omega⟩
  have:=List.all_eq_true.mp (List.all_eq_true.mp noHitB k (List.mem_range.mpr hk)) l (List.mem_range.mpr hl)
  simp only [Bool.and_eq_true] at this
  exact ⟨this.1.2,this.2⟩
theorem sub_noneE {prog : Program} {w : World} {A : Around} {E : Value → Shared → Prop} {f : Addr} {T : List Nat} {x : Str} {u : Tok} {of : Obj} {s : Shared} {h₀ : Heap} {L : Addr} {m : Str → Option Value} {news : List (Addr × Obj)} {Q : Value → Shared → Prop} (X : (hd.heap_1 w.params).In h₀) (F : Fr h₀ L s.heap m) (N : News h₀ L s.heap news) (hf : (f, of) ∈ news) (cf : of.cls = .type "function") (hx : Fct (x = ⟨T.toArray⟩)) (hno : noHit T = true) (hz : T.length ≤ 100)
    (hQ:∀ h' t' k,Fr h₀ L h' m→News h₀ L h' news→Q (.str x t') { s with heap:=h',toks:=k }) :
    wpAny (model prog w) A (call (.builtin "re.Pattern.sub") [.ref 43,.ref f,.str x u]) Q E s:=by
  obtain ⟨rfl⟩:=hx
  exact sub_none X F N hf cf hno hz hQ
theorem emp_eq:Fct (ofString ""=⟨([]:List Nat).toArray⟩):=⟨rfl⟩
theorem bang_eq:Fct (ofString "!"=⟨([33]:List Nat).toArray⟩):=⟨rfl⟩
example:True:=by
  k_with "oleN"=>apply Lx.l69
  k_with "oleN"=>apply Lx.l308
  trivial
noncomputable def Apart (o:Obj):Prop:=∀ vs,o.data=.fields vs→(∃ v,vs[0]?=some v∧∀ x t,v≠.int x t)∧∀ q t,vs[1]?≠some (.str q t)
noncomputable def TabLike (o:Obj):Prop:=∃ vs,o.data=.fields vs∧(vs[0]?=none∨(∃ x t,vs[0]?=some (.int x t))∨∃ q t,vs[1]?=some (.str q t))
theorem apart_ne {o o':Obj} (x:Apart o) (y:TabLike o') : o≠o':=fun e=>by
  subst e
  obtain ⟨vs,h1,h2⟩:=y
  obtain ⟨⟨v,h3,h4⟩,h5⟩:=x vs h1
  rcases h2 with h2 | ⟨i,t,h2⟩ | ⟨q,t,h2⟩
  · rw [h3] at h2;cases h2
  · rw [h3] at h2;exact h4 i t (Option.some.inj h2)
  · exact h5 q t h2
theorem apart_list {its:Array Value} {n:Nat}:Apart (W.listOf its n):=fun _ h=>by cases h
theorem apart_lst {ys:List Value}:Apart (LCg.lst ys):=fun _ h=>by cases h
theorem apart_seq {c:Value} {its:Array Value} {n:Nat}:Apart { cls:=c,data:=.seq its n }:=fun _ h=>by cases h
theorem apart_cell {o:Obj} {v:Option Value} (d : o.data=.cell v):Apart o:=fun _ h=>by rw [d] at h;cases h
theorem apart_ns {o:Obj} {m:Str→Option Value} (d:LCg.NsObj o m):Apart o:=fun _ h=>by obtain ⟨_,_,e,_⟩:=d;rw [e] at h;cases h
theorem apart_iter {o:Obj} {a:Addr} {i:Int} {t:Tok} (d : o.data=.fields #[.ref a,.int i t]):Apart o:=fun vs h=>by
  rw [d] at h;cases h;exact ⟨⟨_,rfl,fun x t=>nofun⟩,fun q t=>nofun⟩
theorem apart_enum {o:Obj} {it:Addr} {i:Int} {old:Value} (d : o.data=.fields #[.none,.bool false,.ref it,rawInt i,.none,old]):Apart o:=fun vs h=>by
  rw [d] at h;cases h;exact ⟨⟨_,rfl,fun x t=>nofun⟩,fun q t=>nofun⟩
theorem tabLike_tab {ps:Array Value} (h : ps[0]?=none∨∃ x t,ps[0]?=some (.int x t)):TabLike (tabObj ps):=⟨ps,rfl,h.elim .inl fun h=>.inr (.inl h)⟩
theorem tabLike_code {oc:Obj} {vs:Array Value} {q:Str} {t:Tok} (h1 : oc.data=.fields vs) (h2 : vs[1]?=some (.str q t)):TabLike oc:=⟨vs,h1,.inr (.inr ⟨q,t,h2⟩)⟩
noncomputable def EnPost (h₀:Heap) (L:Addr) (τ:Nat) (os:OsState) (Jn:(Str→Option Value)→List (Addr×Obj)→Prop) (e:Addr) (oe:Obj) (it:Addr) (oi:Obj) (Q:Flow→Shared→Prop) (f:Flow) (s₃:Shared):Prop :=
  match f with
  | .ret v=>Q (.ret v) s₃
  | .brk=>Q .next s₃
  | _=>∃ h g d tk m news,s₃={ heap:=h,gens:=g,drawn:=d,toks:=tk,os:=os }∧τ≤tk∧AllBare g∧Fr h₀ L h m∧News h₀ L h ((e,oe)::(it,oi)::news)∧(∀ p∈news,p.1≠e∧p.1≠it)∧Jn m news
noncomputable def EnHit (h₀:Heap) (L:Addr) (τ:Nat) (os:OsState) (J0:(Str→Option Value)→List (Addr×Obj)→Prop) (l:Addr) (xv:Value) (s₁:Shared):Prop :=
  ∃ e it h g d tk m news,xv=.ref e∧s₁={ heap:=h,gens:=g,drawn:=d,toks:=tk,os:=os }∧IsEnum h e it 0 .none∧h.IsListIter it l 0∧e≠it∧τ≤tk∧AllBare g∧Fr h₀ L h m∧News h₀ L h news∧(∀ p∈news,p.1≠e∧p.1≠it)∧h₀.get? e=none∧h₀.get? it=none∧e≠L∧it≠L∧J0 m news
section
variable {prog:Program} {w:World} {A:Around} {E:Value→Shared→Prop} {Q:Flow→Shared→Prop} {s:Shared} {env:Env} {h₀:Heap} {iter:PySem.Expr} {body:List Stmt} {pos:Pos} {τ:Nat} {l:Addr} {vs:List Value}
inductive FeI (h₀ : Heap) (L : Addr) (τ : Nat) (os : OsState) (nv : Nat) (e it l : Addr) (J : Nat → (Str → Option Value) → List (Addr × Obj) → Prop) (k : Nat) (s' : Shared) : Prop
  | mk (h':Heap) (g':Array GenState) (d':Drawn) (tk' i:Nat) (old:Value) (m':Str→Option Value) (news':List (Addr×Obj)) (_ : s'={ heap:=h',gens:=g',drawn:=d',toks:=tk',os:=os }) (_ : i≤nv) (_ : k=nv+1 - i) (_ : τ≤tk') (_:AllBare g') (_:IsEnum h' e it ((i:Nat):Int) old) (_ : h'.IsListIter it l i) (_:Fr h₀ L h' m') (_:News h₀ L h' news') (_:∀ p∈news',p.1≠e∧p.1≠it) (_:J i m' news')
theorem forEnumX {xi xv : Str} {pi pv pt : Pos} {x1 : Nat} (J : Nat → (Str → Option Value) → List (Addr × Obj) → Prop) (hh : A.handled = none) (hτ : τ ≤ s.toks)
    (hxi : env.kindOf xi=some .local) (hxv : env.kindOf xv=some .local) (hp:(env.scope.kind == .class || (env.scope.kind == .module && env.locals != env.globals))=false)
    (src:∀ i m' news',J i m' news'→∃ n,(l,W.listOf vs.toArray n)∈news')
    (hit : wpAny (model prog w) A (eval iter env) (fun xv s₁=>TokQ τ (EnHit h₀ env.locals τ s.os (J 0) l xv) s₁) E s)
    (step:∀ i v t m₁ news₁ h g d tk e oe it oi,vs[i]?=some v→τ≤tk→AllBare g→J i m₁ news₁→Fr h₀ env.locals h (fun y=>if y=xv then some v else if y=xi then some (.int (i:Int) t) else m₁ y)→News h₀ env.locals h ((e,oe)::(it,oi)::news₁)→(∀ p∈news₁,p.1≠e∧p.1≠it)→e≠it→Apart oe→Apart oi →
      wpAny (model prog w) A (execs body env) (EnPost h₀ env.locals τ s.os (J (i+1)) e oe it oi Q) E { heap:=h,gens:=g,drawn:=d,toks:=tk,os:=s.os })
    (done:∀ m₁ news₁ h g d tk,τ≤tk→AllBare g→J vs.length m₁ news₁→Fr h₀ env.locals h m₁→News h₀ env.locals h news₁→Q .next { heap:=h,gens:=g,drawn:=d,toks:=tk,os:=s.os })
    (hs:∀ x,foldedSetIterable iter env x=pure x:=by intros _;rfl)
    (hE:PassesOwn (model prog w) A env E:=by passes_own) :
    wpAny (model prog w) A (exec (.For (.Tuple [.Name xi pi,.Name xv pv] x1 pt) iter body [] pos) env) Q E s:=by
  refine wpAny_For (wpAny_mono (toksLe hτ hit) (fun xv s₁ h₁=>?_) fun _ _ e=>e) hs
  obtain ⟨e,it,h,g,d,tk,m,news,rfl,rfl,he,hit,hei,hτ₁,G,F,N,off,he₀,hi₀,heL,hiL,J0⟩:=h₁
  refine wpAny_pyIter_enum he ?_
  refine codeAny_forLoop_any (FeI h₀ env.locals τ s.os vs.length e it l J) ?_ (vs.length + 1)
    ⟨h,g,d,tk,0,.none,m,news,rfl,Nat.zero_le _,rfl,hτ₁,G,he,hit,F,N,off,J0⟩
  rintro k s' ⟨h',g',d',tk',i,old,m',news',rfl,hi,rfl,hτ',G',he',hit',F',N',off',hJ⟩
  obtain ⟨nl,hm⟩:=src _ _ _ hJ
  have hl' : h'.IsList l vs.toArray:=⟨_,(N' _ hm).1,rfl,nl,rfl⟩
  have hle : l≠e:=(off' _ hm).1
  have hli : l≠it:=(off' _ hm).2
  have keepF:∀ {h₁ h₂:Heap} {m':Str→Option Value},Fr h₀ env.locals h₁ m'→(∀ b o,b≠e→b≠it→h₁.get? b=some o→h₂.get? b=some o)→Fr h₀ env.locals h₂ m':=fun F' k =>
    ⟨F'.ns.at' fun o x=>k _ o (Ne.symm heL) (Ne.symm hiL) x,fun b o x=>k b o (fun q=>by rw [q,he₀] at x;cases x) (fun q=>by rw [q,hi₀] at x;cases x) (F'.keep b o x),F'.above⟩
  have keepN:∀ {h₁ h₂:Heap} {nw:List (Addr×Obj)},News h₀ env.locals h₁ nw→(∀ p∈nw,p.1≠e∧p.1≠it)→(∀ b o,b≠e→b≠it→h₁.get? b=some o→h₂.get? b=some o)→News h₀ env.locals h₂ nw:=fun N' off k p hp =>
    ⟨k _ _ (off p hp).1 (off p hp).2 (N' p hp).1,(N' p hp).2⟩
  cases hv : vs.toArray[i]? with
  | none =>
    have hsz : i=vs.length:=Nat.le_antisymm hi (by simpa using hv)
    refine wpAny_pyNext_enum_end hh he' hit' hl' hv fun h₁ he₁=>wpAny_execs_nil ?_
    exact done m' news' h₁ g' d' tk' hτ' G' (hsz ▸ hJ) (keepF F' fun b o _ hbi x=>he₁ b o hbi x) (keepN N' off' fun b o _ hbi x=>he₁ b o hbi x)
  | some v =>
    have hv' : vs[i]?=some v:=by simpa using hv
    have hlt : i < vs.length:=by
      rcases Nat.lt_or_ge i vs.length with q | q
      · exact q
      · rw [List.getElem?_eq_none q] at hv';cases hv'
    have heH : e < h'.objs.size:=Heap.lt_size he'
    have hLH : env.locals < h'.objs.size:=F'.ns.lt
    obtain ⟨oi,hoi,_⟩:=id hit'
    have hiH : it < h'.objs.size:=Heap.lt_size hoi
    refine wpAny_pyNext_enum_item he' hit' hl' hv hei fun h₁ heo hit₁ ht₁ hz₁ hk₁=>?_
    refine wpAny_letOwnedTupleGo_enum heo fun h₂ he₂ hs₂=>?_
    replace hs₂:Heap.SameBut e h₁ h₂:=hs₂
    have ht₂ : h₂.IsTuple h'.objs.size #[.int i tk',v]:=⟨_,(hs₂.2 _ (Nat.ne_of_gt heH)).trans ht₁,rfl,_,rfl⟩
    have hz₂ : h₂.objs.size=h'.objs.size+1:=hs₂.1.trans hz₁
    refine wpAny_assign_Tuple hh ht₂ rfl rfl fun h₃ hx₃=>?_
    replace hx₃:Heap.ExtBut h₂.objs.size h₂ h₃:=hx₃
    have old₃:∀ b o,b < h'.objs.size→h₂.get? b=some o→h₃.get? b=some o:=fun b o hb x=>hx₃ b o (by rw [hz₂];exact Nat.ne_of_lt (Nat.lt_succ_of_lt hb)) x
    have all₃:∀ b o,b < h'.objs.size→b≠e→b≠it→h'.get? b=some o→h₃.get? b=some o:=fun b o hb hbe hbi x=>old₃ b o hb (hs₂.extBut b o hbe (hk₁ b o hbe hbi x))
    have hn₃ : h₃.Ns env.locals m':=F'.ns.at' fun o x=>all₃ _ o hLH (Ne.symm heL) (Ne.symm hiL) x
    show wpAny _ A (do holding [v] (assign (.Name xi pi) env (.int i tk'));do holding [] (assign (.Name _ pv) env v);pure ()) _ _ _
    refine wpAny_bind (wpAny_holding (wpAny_assign_Name (wpAny_storeName_local hxi hn₃ (fun h₄ hn₄ hs₄=>?_) hp)))
    replace hs₄:Heap.SameBut env.locals h₃ h₄:=hs₄
    refine wpAny_bind (wpAny_holding (wpAny_assign_Name (wpAny_storeName_local hxv hn₄ (fun h₅ hn₅ hs₅=>wpAny_pure ?_) hp)))
    replace hs₅:Heap.SameBut env.locals h₄ h₅:=hs₅
    have up:∀ b o,b≠env.locals→h₃.get? b=some o→h₅.get? b=some o:=fun b o hbL x=>hs₅.extBut b o hbL (hs₄.extBut b o hbL x)
    have hL₀ : h₀.get? env.locals=none:=Heap.get?_none_of_le F'.above
    have F₅:Fr h₀ env.locals h₅ _:=⟨hn₅,fun b o x=>up b o (fun q=>by rw [q,hL₀] at x;cases x) (all₃ b o (Heap.lt_size (F'.keep b o x)) (fun q=>by rw [q,he₀] at x;cases x) (fun q=>by rw [q,hi₀] at x;cases x) (F'.keep b o x)),F'.above⟩
    have hit₅ : h₅.IsListIter it l (i+1):=by
      obtain ⟨o,x,r⟩:=hit₁
      exact ⟨o,up _ _ hiL (old₃ _ _ hiH (hs₂.extBut _ _ (Ne.symm hei) x)),r⟩
    have he₅:IsEnum h₅ e it (((i+1:Nat):Int)) v:=by
      have:((i+1:Nat):Int)=(i:Int)+1:=by push_cast;rfl
      rw [this];exact up _ _ heL (old₃ _ _ heH he₂)
    obtain ⟨o5,hg5,hr5⟩:=hit₅
    have N₅:News h₀ env.locals h₅ ((e,_)::(it,o5)::news'):=fun p hp=>by
      rcases List.mem_cons.mp hp with rfl | hp
      · exact ⟨he₅,heL,he₀⟩
      · rcases List.mem_cons.mp hp with rfl | hp
        · exact ⟨hg5,hiL,hi₀⟩
        · exact ⟨up _ _ (N' p hp).2.1 (all₃ _ _ (Heap.lt_size (N' p hp).1) (off' p hp).1 (off' p hp).2 (N' p hp).1),(N' p hp).2⟩
    have hst:=fun tk₂ (q : τ≤tk₂)=>step i v tk' m' news' h₅ g' d' tk₂ e _ it o5 hv' q G' hJ F₅ N₅ off' hei (apart_enum rfl) (apart_iter hr5.2)
    refine wpAny_passesOwn hE (wpAny_mono (hst _ ?tks) (fun f s₃ h₃=>?_) fun _ _ e=>e)
    case tks=>exact Nat.le_trans hτ' (by (try dsimp only);omega)
    cases f with
    | ret v=>exact h₃
    | brk=>exact h₃
    | next =>
        obtain ⟨h₆,g₆,d₆,tk₆,m₆,news₆,rfl,hτ₆,G₆,F₆,N₆,off₆,J₆⟩:=h₃
        k_extra "r6"
    | cont =>
        obtain ⟨h₆,g₆,d₆,tk₆,m₆,news₆,rfl,hτ₆,G₆,F₆,N₆,off₆,J₆⟩:=h₃
        k_extra "r6"
end
section
open PyProof.Rows.LCg
variable {prog:Program} {w:World} {A:Around} {E:Value→Shared→Prop} {s:Shared} {env:Env} {h₀:Heap} {L:Addr} {m:Str→Option Value} {τ:Nat}
noncomputable def CpEnd (h₀:Heap) (L:Addr) (m:Str→Option Value) (τ:Nat) (os:OsState) (I:Addr) (oI:Obj) (C:Addr) (oC:Obj) (D:Addr) (oD:Obj) (Jn:Value→List (Addr×Obj)→Prop) (y:Value) (s₂:Shared):Prop :=
  ∃ h g d tk news,s₂={ heap:=h,gens:=g,drawn:=d,toks:=tk,os:=os }∧τ≤tk∧AllBare g∧Fr h₀ L h m∧News h₀ L h ((I,oI)::(C,oC)::(D,oD)::news)∧Off3 I C D news∧Jn y news
noncomputable def CpHit (h₀:Heap) (L:Addr) (m:Str→Option Value) (τ:Nat) (os:OsState) (J0:Addr→List Value→List (Addr×Obj)→Prop) (xv:Value) (s₁:Shared):Prop :=
  ∃ ax vs h g d tk news,xv=.ref ax∧s₁={ heap:=h,gens:=g,drawn:=d,toks:=tk,os:=os }∧τ≤tk∧AllBare g∧Fr h₀ L h m∧News h₀ L h news∧J0 ax vs news
inductive BlI (h₀ : Heap) (L : Addr) (m : Str → Option Value) (τ : Nat) (os : OsState) (nv : Nat) (I ax C D : Addr) (J : Nat → List Value → List (Addr × Obj) → Prop) (k : Nat) (s' : Shared) : Prop
  | mk (h':Heap) (g:Array GenState) (d:Drawn) (tk i:Nat) (ys:List Value) (m':Str→Option Value) (news':List (Addr×Obj)) (_ : s'={ heap:=h',gens:=g,drawn:=d,toks:=tk,os:=os }) (_ : i≤nv) (_ : k=nv+1 - i) (_ : ys.length=i) (_ : τ≤tk) (_:AllBare g) (_ : h'.IsListIter I ax i) (_:Fr h₀ L h' m) (_ : h'.Ns C m') (_:News h₀ L h' ((D,lst ys)::news')) (_:Off3 I C D news') (_:J i ys news')
theorem blockX {elt iter : PySem.Expr} {x : Str} {px : Pos} {scope : Scope} {cl : List (Str × Addr)} {pos : Pos} {I ax : Addr} {vs : List Value} {hb : Heap} {g0 : Array GenState} {d0 : Drawn} {tk0 : Nat} {os : OsState} {news : List (Addr × Obj)} {RR : Value → Addr → Result → Shared → Prop}
    (J:Nat→List Value→List (Addr×Obj)→Prop) (hh:A.handled=none) (haxI : ax≠I) (hsz : vs.length≤sizeLine)
    (src:∀ i ys news',J i ys news'→∃ n,(ax,W.listOf vs.toArray n)∈news')
    (hcell:∀ y∈scope.names,y.2≠.cell) (hkind : scope.kind=.function) (hx : scope.names.lookup x=some .local)
    (hit0 : hb.IsListIter I ax 0) (hτ0 : τ≤tk0) (G0:AllBare g0) (F:Fr h₀ L hb m) (N:News h₀ L hb news) (hIL:L≠I) (hI₀ : h₀.get? I=none) (off:∀ p∈news,p.1≠I) (J0:J 0 [] news)
    (step:∀ i ys news v oI C oC D m₂ h g d tk (E':Value→Shared→Prop),vs[i]?=some v→J i ys news→τ≤tk→AllBare g→NsObj oC m₂→m₂ x=some v→Fr h₀ L h m→News h₀ L h ((I,oI)::(C,oC)::(D,lst ys)::news)→Off3 I C D news→((@Ne Nat I C)∧(@Ne Nat I D)∧(@Ne Nat C D))→Apart oI →
      wpAny (model prog w) A (eval elt (compEnvC scope cl C env)) (CpEnd h₀ L m τ os I oI C oC D (lst ys) (fun y news'=>J (i+1) (ys++[y]) news')) E' { heap:=h,gens:=g,drawn:=d,toks:=tk,os:=os })
    (hRR:∀ D C h g d tk m' ys news',τ≤tk→AllBare g→Fr h₀ L h m→News h₀ L h ((D,lst ys)::news')→Off1 D news'→h.Ns C m'→h₀.get? C=none→h₀.get? D=none→C≠L→D≠L→C≠D→(∀ p∈news',p.1≠C)→J vs.length ys news'→RR (.ref D) C (.ok .next) { heap:=h,gens:=g,drawn:=d,toks:=tk,os:=os }) :
    wpAny (model prog w) A (newList []) (fun acc s₃=>wpAny (model prog w) A (newFunctionEnv scope env.globals cl [] env.qual none .none (some env)) (fun cenv s₄ =>
      codeAny (model prog w) A (.compStart (.ListComp elt [⟨.Name x px,iter,[],0⟩] scope pos) 0 (.ref I) acc { cenv with scope:=relabel scope env }) (RR acc cenv.locals) s₄) E s₃) E { heap:=hb,gens:=g0,drawn:=d0,toks:=tk0,os:=os }:=by
  have W:=Walks.list (prog:=prog) (w:=w) (A:=A) hh I ax haxI vs.toArray
  obtain ⟨oI0,heI0,hrI0⟩:=id hit0
  have hIH:I < hb.objs.size:=Heap.lt_size heI0
  refine wpAny_newObj_type (wpAny_newFunctionEnv hcell (by intros y hy;simp at hy) (fun h₁ hns₁ hsb₁=>?_) hkind)
  dsimp only at hns₁ hsb₁ ⊢
  generalize hH2 : hb.push { cls:=.type "list",dict:=none,data:=.seq ([]:List Value).toArray }=H2 at hns₁ hsb₁ ⊢
  have hC:H2.objs.size=hb.objs.size+1:=by rw [← hH2,Heap.size_push]
  have hDC : hb.objs.size≠H2.objs.size:=by rw [hC];exact Nat.ne_of_lt (Nat.lt_succ_self _)
  have below:∀ b,b < hb.objs.size→b≠H2.objs.size∧b≠hb.objs.size:=fun b q=>⟨by rw [hC];exact Nat.ne_of_lt (Nat.lt_succ_of_lt q),Nat.ne_of_lt q⟩
  have old:∀ b o,hb.get? b=some o→h₁.get? b=some o:=fun b o e=>hsb₁.extBut b o (below b (Heap.lt_size e)).1 (Heap.get?_push_of_some _ (hH2 ▸ Heap.get?_push_of_some _ e))
  have hacc : h₁.get? hb.objs.size=some (lst []):=hsb₁.extBut _ _ hDC (Heap.get?_push_of_some _ (hH2 ▸ Heap.get?_push_size _ rfl))
  have fresh:∀ a,hb.objs.size≤a→hb.get? a=none:=fun a ha=>by
    cases e : hb.get? a with
    | none=>rfl
    | some o'=>exact absurd (Heap.lt_size e) (Nat.not_lt.mpr ha)
  have fresh₀:∀ a,hb.objs.size≤a→h₀.get? a=none:=fun a ha=>by
    cases e : h₀.get? a with
    | none=>rfl
    | some o'=>have:=F.keep a o' e;rw [fresh a ha] at this;cases this
  have hD₀ : h₀.get? hb.objs.size=none:=fresh₀ _ (Nat.le_refl _)
  have hC₀ : h₀.get? H2.objs.size=none:=fresh₀ _ (by rw [hC];exact Nat.le_succ _)
  have hDL : hb.objs.size≠L:=Ne.symm (below _ F.ns.lt).2
  have hCL:H2.objs.size≠L:=Ne.symm (below _ F.ns.lt).1
  have hCI:I≠H2.objs.size:=(below I hIH).1
  have hDI:I≠hb.objs.size:=(below I hIH).2
  have hit1 : h₁.IsListIter I ax 0:=⟨oI0,old _ _ heI0,hrI0⟩
  have off₀:Off3 I H2.objs.size hb.objs.size news:=Off3.of fun p hp=>⟨off p hp,(below _ (Heap.lt_size (N p hp).1)).1,(below _ (Heap.lt_size (N p hp).1)).2⟩
  have F2:=F.keeps old
  have N2:News h₀ L h₁ ((hb.objs.size,lst [])::news):=fun p hp=>by
    rcases List.mem_cons.mp hp with rfl | hp
    · exact ⟨hacc,hDL,hD₀⟩
    · exact ⟨old _ _ (N p hp).1,(N p hp).2⟩
  have loop : codeAny (model prog w) A (.compLoop (.ListComp elt [⟨.Name x px, iter, [], 0⟩] scope pos) 0 (.ref I) (.ref hb.objs.size) (compEnvC scope cl H2.objs.size env)) (RR (.ref hb.objs.size) H2.objs.size)
      { heap:=h₁,gens:=g0,drawn:=d0,toks:=tk0+([]:List (Str×Value)).length,os:=os }:=by
    refine codeAny_compLoop_tests
      (BlI h₀ L m τ os vs.length I ax H2.objs.size hb.objs.size J) ?_ (vs.length+1)
      ⟨h₁,g0,d0,_,0,[],_,news,rfl,Nat.zero_le _,rfl,rfl,hτ0,G0,hit1,F2,hns₁,N2,off₀,J0⟩
    rintro k s' ⟨h',g,d,tk,i,ys,m',news',rfl,hi,rfl,hyl,hτ,G,hit',F',hn',N',off',hJ⟩
    obtain ⟨nl,hm⟩:=src _ _ _ hJ
    have hl' : h'.IsList ax vs.toArray:=⟨_,(N' _ (.tail _ hm)).1,rfl,nl,rfl⟩
    by_cases hlt : i < vs.length
    · refine toksLe (n := τ) hτ (W.item i _ _ _ (by simpa using hlt) ⟨hit', hl'⟩ fun v h₂ tk₂ hPv hst₂ hk₂ hτ₂ => ?_)
      have hPv' : vs[i]?=some v:=by simpa using hPv
      refine wpAny_assign_Name (wpAny_storeName_local (lookup_relabel_local hx) (hn'.at' fun o e=>hk₂ _ o (by simpa using Ne.symm hCI) e) (fun h₃ hn₃ hs₃=>?_) (by simp [compEnvC,relabel,hkind]))
      refine wpAny_tests_nil ?_
      simp only [if_true]
      obtain ⟨o2,e2,r2⟩:=hst₂.1
      have heI : h₃.get? I=some o2:=hs₃.extBut _ _ hCI e2
      obtain ⟨oC,heC,hoC⟩:=ns_obj hn₃
      have F₃:Fr h₀ L h₃ m:=(fr_but F' hk₂ hIL hI₀).change hs₃ hCL hC₀
      have off3:=off'.mem
      have N₂:News h₀ L h₂ ((hb.objs.size,lst ys)::news'):=news_but N' hk₂ fun p hp=>by
        rcases List.mem_cons.mp hp with rfl | hp
        · exact Ne.symm hDI
        · exact (off3 p hp).1
      have N₃:News h₀ L h₃ ((I,o2)::(H2.objs.size,oC)::(hb.objs.size,lst ys)::news'):=fun p hp=>by
        rcases List.mem_cons.mp hp with rfl | hp
        · exact ⟨heI,Ne.symm hIL,hI₀⟩
        · rcases List.mem_cons.mp hp with rfl | hp
          · exact ⟨heC,hCL,hC₀⟩
          · have z := N₂ p hp
            refine ⟨hs₃.extBut _ _ ?_ z.1,z.2⟩
            rcases List.mem_cons.mp hp with rfl | hp
            · exact hDC
            · exact (off3 p hp).2.1
      have hst:=fun tk₃ E' (q : τ≤tk₃)=>step i ys news' v o2 H2.objs.size oC hb.objs.size _ h₃ g d tk₃ E' hPv' hJ q G hoC (by simp) F₃ N₃ off' ⟨hCI,hDI,Ne.symm hDC⟩ (apart_iter r2.2)
      refine wpAny_mono (hst _ _ ?tks) (fun y s₄ h₄=>?_) fun _ _ e=>e
      case tks=>exact Nat.le_trans hτ₂ (by (try dsimp only);omega)
      obtain ⟨h₄,g₄,d₄,tk₄,news₄,rfl,hτ₄,G₄,F₄,N₄,off₄,J₄⟩:=h₄
      have zI:=(N₄ (I,o2) List.mem_cons_self).1
      have zC:=(N₄ (H2.objs.size,oC) (List.mem_cons_of_mem _ List.mem_cons_self)).1
      have zD:=(N₄ (hb.objs.size,lst ys) (List.mem_cons_of_mem _ (List.mem_cons_of_mem _ List.mem_cons_self))).1
      have N₄':News h₀ L h₄ news₄:=fun p hp=>N₄ p (List.mem_cons_of_mem _ (List.mem_cons_of_mem _ (List.mem_cons_of_mem _ hp)))
      refine append_at (hsz:=by show ys.toArray.size≤sizeLine;rw [List.size_toArray,hyl];exact Nat.le_trans hi hsz) zD fun h₅ hs₅ hD₅=>?_
      have off4:=off₄.mem
      refine ⟨vs.length+1 - (i+1),by omega,h₅,g₄,d₄,tk₄,i+1,ys++[y],_,news₄,rfl,hlt,rfl,by rw [List.length_append,List.length_singleton,hyl],hτ₄,G₄,⟨o2,hs₅.extBut _ _ hDI zI,r2⟩,F₄.change hs₅ hDL hD₀,
        (hoC.ns zC).sameBut hs₅ (Ne.symm hDC),fun p hp=>?_,off₄,J₄⟩
      rcases List.mem_cons.mp hp with rfl | hp
      · exact ⟨hD₅.trans (congrArg some (lst_snoc ys y)),hDL,hD₀⟩
      · exact ⟨hs₅.extBut _ _ (off4 p hp).2.2 (N₄' p hp).1,(N₄' p hp).2⟩
    · obtain rfl : i = vs.length := Nat.le_antisymm hi (Nat.not_lt.mp hlt)
      refine toksLe (n:=τ) hτ (W.done _ _ _ ⟨by simpa using hit',hl'⟩ fun h₂ tk₂ hk₂ hτ₂=>?_)
      have off3:=off'.mem
      exact hRR _ _ h₂ g d tk₂ _ ys news' hτ₂ G (fr_but F' hk₂ hIL hI₀) (news_but N' hk₂ fun p hp=>by
        rcases List.mem_cons.mp hp with rfl | hp
        · exact Ne.symm hDI
        · exact (off3 p hp).1) off'.one (hn'.at' fun o e=>hk₂ _ o (by simpa using Ne.symm hCI) e) hC₀ hD₀ hCL hDL (Ne.symm hDC) (fun p hp=>(off3 p hp).2.1) hJ
  exact codeAny_compStart_list loop (W.self 0 _ _ _ ⟨hit1,by obtain ⟨nl,hm⟩:=src _ _ _ J0;exact ⟨_,old _ _ (N _ hm).1,rfl,nl,rfl⟩⟩ loop)
structure TokStop : Prop where
  mk ::
theorem evalCompX {elt iter : PySem.Expr} {x : Str} {px : Pos} {scope : Scope} {cl : List (Str × Addr)} {pos : Pos} {Q : Value → Shared → Prop}
    (_F:Fr h₀ L s.heap m) (J:Addr→List Value→Nat→List Value→List (Addr×Obj)→Prop) (hh:A.handled=none) (hτ : τ≤s.toks)
    (hclos : closureFor scope env=pure cl) (hcell:∀ z∈scope.names,z.2≠.cell) (hkind : scope.kind=.function)
    (hnames:∀ z∈scope.names,z.2=.local→scope.names.lookup z.1=some .local) (hx : scope.names.lookup x=some .local)
    (src:∀ ax vs i ys news',J ax vs i ys news'→vs.length≤sizeLine∧∃ n,(ax,W.listOf vs.toArray n)∈news')
    (hit : wpAny (model prog w) A (eval iter env) (fun xv s₁=>TokQ τ (CpHit h₀ L m τ s.os (fun ax vs=>J ax vs 0 []) xv) s₁) E s)
    (step:∀ ax vs i ys news v I oI C oC D m₂ h g d tk (E':Value→Shared→Prop),vs[i]?=some v→J ax vs i ys news→τ≤tk→AllBare g→NsObj oC m₂→m₂ x=some v→Fr h₀ L h m→News h₀ L h ((I,oI)::(C,oC)::(D,lst ys)::news)→Off3 I C D news→((@Ne Nat I C)∧(@Ne Nat I D)∧(@Ne Nat C D))→Apart oI →
      wpAny (model prog w) A (eval elt (compEnvC scope cl C env)) (CpEnd h₀ L m τ s.os I oI C oC D (lst ys) (fun y news'=>J ax vs (i+1) (ys++[y]) news')) E' { heap:=h,gens:=g,drawn:=d,toks:=tk,os:=s.os })
    (done:∀ ax vs D ys news h g d tk,τ≤tk→AllBare g→J ax vs vs.length ys news→Fr h₀ L h m→News h₀ L h ((D,lst ys)::news)→Off1 D news→Q (.ref D) { heap:=h,gens:=g,drawn:=d,toks:=tk,os:=s.os })
    (hs:∀ x,foldedSetIterable iter env x=pure x:=by intros _;rfl) :
    wpAny (model prog w) A (eval (.ListComp elt [⟨.Name x px,iter,[],0⟩] scope pos) env) Q E s:=by
  rw [eval_ListComp]
  refine wpAny_comprehension_free (use:=none) rfl hs hclos hkind hnames (wpAny_mono (toksLe hτ hit) (fun xv s₁ h₁=>?_) fun _ _ e=>e)
  obtain ⟨ax,vs,h,g,d,tk,news,rfl,rfl,hτ₁,G,F,N,J0⟩:=h₁
  obtain ⟨hsz,nl,hm⟩:=src _ _ _ _ _ J0
  have hl : h.IsList ax vs.toArray:=⟨_,(N _ hm).1,rfl,nl,rfl⟩
  have hlt : ax < h.objs.size:=Heap.lt_size (N _ hm).1
  refine wpAny_pyIter_list hl ?_
  k_extra "r7"
  k_extra "r8"
  have F1:=F.keeps up
  have N1:News h₀ L (h.push { cls:=.type "list_iterator",data:=.fields #[.ref ax,.int 0 0] }) news:=N.grown up
  have hIL:L≠h.objs.size:=Nat.ne_of_lt F.ns.lt
  have hI₀ : h₀.get? h.objs.size=none:=next_is_new F
  have offI:∀ p∈news,p.1≠h.objs.size:=fun p hp=>Nat.ne_of_lt (Heap.lt_size (N p hp).1)
  k_extra "r9"
  have haxI : ax≠h.objs.size:=Nat.ne_of_lt hlt
  k_extra "r10"
  intros D C h' g d tk m' ys news' hτ G F' N' o1 hn hC₀ hD₀ hCL hDL hCD offC hJ
  refine ⟨m',hn,fun h'' hs''=>done ax vs D ys news' h'' g d tk hτ G hJ (F'.change hs'' hCL hC₀) (fun p hp=>?_) o1⟩
  refine ⟨hs''.extBut _ _ ?_ (N' p hp).1,(N' p hp).2⟩
  rcases List.mem_cons.mp hp with rfl | hp
  · exact Ne.symm hCD
  · exact offC p hp
theorem assignCompX {elt iter : PySem.Expr} {x y : Str} {px py : Pos} {scope : Scope} {cl : List (Str × Addr)} {pos spos : Pos} {Q : Flow → Shared → Prop}
    (J:Addr→List Value→Nat→List Value→List (Addr×Obj)→Prop) {τ₀:Nat} (hh:A.handled=none) (hτ : τ₀≤s.toks) (hLe : env.locals=L)
    (hsw : swapsWith (.ListComp elt [⟨.Name x px,iter,[],0⟩] scope pos) (some (.Name y py)) spos.line env=pure true)
    (hclos : closureFor scope env=pure cl) (hcell:∀ z∈scope.names,z.2≠.cell) (hkind : scope.kind=.function)
    (hnames:∀ z∈scope.names,z.2=.local→scope.names.lookup z.1=some .local) (hx : scope.names.lookup x=some .local)
    (hy : env.kindOf y=some .local) (hp:(env.scope.kind == .class || (env.scope.kind == .module && env.locals != env.globals))=false)
    (src:∀ ax vs i ys news',J ax vs i ys news'→vs.length≤sizeLine∧∃ n,(ax,W.listOf vs.toArray n)∈news')
    (hit : wpAny (model prog w) A (eval iter env) (fun xv s₁=>TokQ τ₀ (CpHit h₀ L m τ s.os (fun ax vs=>J ax vs 0 []) xv) s₁) E s)
    (step:∀ ax vs i ys news v I oI C oC D m₂ h g d tk (E':Value→Shared→Prop),vs[i]?=some v→J ax vs i ys news→τ≤tk→AllBare g→NsObj oC m₂→m₂ x=some v→Fr h₀ L h m→News h₀ L h ((I,oI)::(C,oC)::(D,lst ys)::news)→Off3 I C D news→((@Ne Nat I C)∧(@Ne Nat I D)∧(@Ne Nat C D))→Apart oI →
      wpAny (model prog w) A (eval elt (compEnvC scope cl C env)) (CpEnd h₀ L m τ s.os I oI C oC D (lst ys) (fun y news'=>J ax vs (i+1) (ys++[y]) news')) E' { heap:=h,gens:=g,drawn:=d,toks:=tk,os:=s.os })
    (done:∀ ax vs D ys news h g d tk,τ≤tk→AllBare g→J ax vs vs.length ys news→Fr h₀ L h (fun z=>if z=y then some (.ref D) else m z)→News h₀ L h ((D,lst ys)::news)→Off1 D news→Q .next { heap:=h,gens:=g,drawn:=d,toks:=tk,os:=s.os })
    (hs:∀ x,foldedSetIterable iter env x=pure x:=by intros _;rfl) :
    wpAny (model prog w) A (exec (.Assign [.Name y py] (.ListComp elt [⟨.Name x px,iter,[],0⟩] scope pos) spos) env) Q E s:=by
  subst hLe
  rw [exec_Assign_Name_used _ _ _ _ hsw]
  refine wpAny_bind (wpAny_standAt (wpAny_bind ?_))
  show wpAny _ A (do let _ ← comprehension (.ListComp elt [⟨.Name x px,iter,[],0⟩] scope pos) scope env _ (newList []) false (eval iter env) (some (assign (.Name y py) env))) _ _ s
  refine wpAny_bind (wpAny_mono (wpAny_comprehension_free (use := some (assign (.Name y py) env)) (Q := fun _ s' => Q .next s') rfl hs hclos hkind hnames
    (wpAny_mono (toksLe hτ hit) (fun xv s₁ h₁=>?_) fun _ _ e=>e)) (fun _ s' hq=>wpAny_pure (wpAny_pure hq)) fun _ _ e=>e)
  obtain ⟨ax,vs,h,g,d,tk,news,rfl,rfl,hτ₁,G,F,N,J0⟩:=h₁
  obtain ⟨hsz,nl,hm⟩:=src _ _ _ _ _ J0
  have hl : h.IsList ax vs.toArray:=⟨_,(N _ hm).1,rfl,nl,rfl⟩
  have hlt : ax < h.objs.size:=Heap.lt_size (N _ hm).1
  refine wpAny_pyIter_list hl ?_
  k_extra "r7"
  k_extra "r8"
  have F1:=F.keeps up
  have N1:News h₀ env.locals (h.push { cls:=.type "list_iterator",data:=.fields #[.ref ax,.int 0 0] }) news:=N.grown up
  have hIL : env.locals≠h.objs.size:=Nat.ne_of_lt F.ns.lt
  have hI₀ : h₀.get? h.objs.size=none:=next_is_new F
  have offI:∀ p∈news,p.1≠h.objs.size:=fun p hp=>Nat.ne_of_lt (Heap.lt_size (N p hp).1)
  k_extra "r9"
  have haxI : ax≠h.objs.size:=Nat.ne_of_lt hlt
  k_extra "r10"
  intros D C h' g d tk m' ys news' hτ G F' N' o1 hn hC₀ hD₀ hCL hDL hCD offC hJ
  show wpAny _ A (assign (.Name y py) env (.ref D)) _ _ _
  refine wpAny_assign_Name (wpAny_storeName_local hy F'.ns (fun h₂ hn₂ hs₂=>?_) hp)
  have hL₀ : h₀.get? env.locals=none:=Heap.get?_none_of_le F'.above
  have F₂:Fr h₀ env.locals h₂ (fun z=>if z=y then some (.ref D) else m z):=⟨hn₂,fun b o e=>hs₂.extBut b o (fun q=>by rw [q,hL₀] at e;cases e) (F'.keep b o e),F'.above⟩
  refine ⟨m',hn.sameBut hs₂ hCL,fun h'' hs''=>done ax vs D ys news' h'' g d _ (Nat.le_trans hτ (by (try dsimp only);omega)) G hJ (F₂.change hs'' hCL hC₀) (fun p hp=>?_) o1⟩
  have z : h₂.get? p.1=some p.2:=hs₂.extBut _ _ (N' p hp).2.1 (N' p hp).1
  refine ⟨hs''.extBut _ _ ?_ z,(N' p hp).2⟩
  rcases List.mem_cons.mp hp with rfl | hp
  · exact Ne.symm hCD
  · exact offC p hp
end
example:True:=by
  k_with "oltN"=>apply Lx.l557
  k_with "oltN"=>apply Lx.l576
  trivial
section
variable {prog:Program} {w:World} {A:Around} {E:Value→Shared→Prop} {s:Shared} {h₀:Heap} {L sa:Addr} {m:Str→Option Value} {news:List (Addr×Obj)} {g:Obj→List (Addr×Obj)} {so:Obj} {S:Int→Bool} {n:Nat}
theorem truthySetB {Q : Bool → Shared → Prop} (b : Bool) (N : News h₀ L s.heap news) (U : UpdF sa so news g) (hso : so.SetObjOf (intKind prog w) S n) (hb : ((n : Int) != 0) = b) (hfit : (n : Int) < 2 ^ 63)
    (h:∀ tk,Q b { s with toks:=tk }) : wpAny (model prog w) A (truthy (.ref sa)) Q E s:=truthySet N U hso hfit (by rw [hb];exact h)
end
example:True:=by
  k_with "truthy ref"=>((k_here;(with_reducible show wpAny _ _ (truthy (Value.ref _)) _ _ _);k_dflt (first
  | (refine' truthySetB true ?kwN ?kwU ?kwd ?kwb ?kwz ?_;(case kwN=>k_asm);(case kwU=>k_updF);(case kwd=>k_asm);(case kwb=>exact rfl);(case kwz=>decide))
  | (refine' truthySetB false ?kwN ?kwU ?kwd ?kwb ?kwz ?_;(case kwN=>k_asm);(case kwU=>k_updF);(case kwd=>k_asm);(case kwb=>exact rfl);(case kwz=>decide)));intro zqooxtk'))
  k_with "getMethod ref"=>((k_here;(with_reducible show wpAny _ _ (getMethod (Value.ref _) (ofString "pop") _) _ _ _);k_dflt (refine' getMethod_pop (knd:=intKind _ _) ?kwN ?kwU ?kwd ?_;(case kwN=>k_asm);(case kwU=>k_updF);(case kwd=>k_asm))))
  k_with "call builtin:set.pop"=>((k_here;k_dflt (refine' pop1 ?kwF ?kwN ?kwU ?kwd ?kwv ?_;(case kwF=>k_asm);(case kwN=>k_asm);(case kwU=>k_updF);(case kwd=>k_asm);(case kwv=>(intro zqoozk zqoozhk;simpa using zqoozhk)));intro zqoozh' zqoozo' zqoozt' zqoozd' zqoozF' zqoozN' zqoozhs';(try (replace zqoozN':=zqoozN';dsimp only at zqoozN'))))
  k_with "exec While"=>((k_here;k_dflt (refine whl_start 3 ?_)))
  k_with "exec While Name"=>((k_here;k_dflt (refine whl_start 3 ?_)))
  trivial
noncomputable def compute_powers_S (n:Int) (t u w':Tok):Prop:=∀ (h1 : n≤2048),SpecX 70 3 [.int n t,.int 5 u,.int 2048 w'] nPr (fun _ v _=>∃ a,v=.ref a) NoMv NoMv
theorem compute_powers_P:∀ (n:Int) (t u w':Tok),compute_powers_S n t u w':=by
  intro n t u w'
  intros h1
  have hc:Fct (decide (n≤2048)=true):=⟨decide_eq_true h1⟩
  k_extra "r11"
  intros B F Nm hO X T hG hf hke hdp hun hpre hret
  refine wpAny_call ?_
  subst hO
  k_dflt refine' enterM (binds:=[(ofString "w",.int n t),(ofString "base",.int 5 u),(ofString "more_than",.int 2048 w'),(ofString "show",.bool false)]) B F Nm X T rfl hf hke ?k6 ?k7 ?k8 ?k9 ?kB ?c5 ?c2 ?c3 ?c4 ?_
  walk_at "m_fill"
  clear F X T B hf hke
  intro g L' h₁ hg F N B X T hlt hsz;(try dsimp only)
  k_steps
  (rename Fr g _ _ _=>F9)
  subst hg
  exact hret _ _ _ _ _ [] F9.keep (Nat.le_trans hsz (Nat.le_of_lt F9.ns.lt)) (fun p hp=>by cases hp) rfl hG ⟨_,rfl⟩
theorem compute_powers:∀ (n:Int) (t u w':Tok) (h1 : n≤2048),SpecX 70 3 [.int n t,.int 5 u,.int 2048 w'] nPr (fun _ v _=>∃ a,v=.ref a) NoMv NoMv:=fun n t u w' h1=>compute_powers_P n t u w' h1
section
open GF
example:True:=by
  k_with "oltN"=>apply Lx.l258<;>assumption
  k_with "oltN"=>apply Lx.l547<;>assumption
  k_with "ox"=>apply Lx.l560
  k_with "of"=>apply Lx.l395<;>assumption
  k_with "oleN"=>apply Lx.l411<;>assumption
  k_with "oleN"=>apply Lx.l595<;>assumption
  k_with "oleN"=>apply Lx.l232<;>assumption
  k_with "oleN"=>apply Lx.l109<;>assumption
  k_with "oltN"=>apply Lx.l153<;>assumption
  k_with "oleN"=>apply Lx.l343
  k_with "of"=>apply Lx.l458<;>assumption
  k_with "oltN"=>apply Lx.l387<;>assumption
  k_with "oltN"=>apply Lx.l561<;>assumption
  k_with "oltI"=>apply Lx.l575<;>assumption
  trivial
noncomputable def figs (n : Nat) : List Int := if h : n ≤ 9 then [(n : Int)] else figs (n / 10) ++ [((n % 10 : Nat) : Int)]
  termination_by n
  decreasing_by omega
theorem fgS {n:Nat} (h : n≤9) : figs n=[(n:Int)]:=by rw [figs];simp [h]
theorem fgB {n:Nat} (h : 9 < n) : figs n=figs (n / 10)++[((n % 10:Nat):Int)]:=by rw [figs];simp [Nat.not_le.mpr h]
theorem fmodN (x n:Nat):Int.fmod (x:Int) (n:Int)=((x % n:Nat):Int):=by rw [Int.fmod_eq_emod_of_nonneg _ (by omega)];rfl
theorem fdivN (x n:Nat):Int.fdiv (x:Int) (n:Int)=((x / n:Nat):Int):=by rw [Int.fdiv_eq_ediv_of_nonneg _ (by omega)];rfl
theorem fmod10 (x:Nat):Int.fmod (x:Int) 10=((x % 10:Nat):Int):=fmodN x 10
theorem fdiv10 (x:Nat):Int.fdiv (x:Int) 10=((x / 10:Nat):Int):=fdivN x 10
noncomputable def FigsInv (N:Nat) (k:Nat) (m:Str→Option Value) (news:List (Addr×Obj)):Prop :=
  ∃ x:Nat,∃ tx R ys c ms g,k=x∧m=setM [(ofString "row",.ref R),(ofString "number",.int (x:Int) tx)] g∧news=[(R,{ cls:=.type "list",data:=.seq (List.toArray ys) c })]∧IntsAre ys ms∧x≤N∧x*10 ^ ms.length≤10*N∧figs N=(if x≤9 then ms else figs (x / 10)++ms)
theorem newsOne {h₀ h:Heap} {L:Addr} {p:Addr×Obj} {r:List (Addr×Obj)} (N:News h₀ L h (p::r)):News h₀ L h [p]:=fun q hq=>N q (by rw [List.mem_singleton.mp hq];exact .head _)
noncomputable def PInts (ns:List Int):Heap→Value→Heap→Prop:=PNew fun o=>∃ ys c,o={ cls:=.type "list",data:=.seq (List.toArray ys) c }∧IntsAre ys ns
example:True:=by
  k_with "exec While"=>((k_extra "gF";(k_here;refine Stopped.go ?_)))
  k_with "ite"=>((k_extra "gF";(k_here;first | with_reducible refine ite_tt ?_ | with_reducible refine ite_ff ?_ | refine ite_pos (Fct.out (by with_reducible assumption)) ?_ | refine ite_neg (ne_true_of (Fct.out (by with_reducible assumption))) ?_ | refine ite_neg (Fct.out (by with_reducible assumption)) ?_ | ((refine iteF ?_ ?_)<;>intro _))))
  trivial
noncomputable def law_figures_S (N:Nat) (t:Tok):Prop:=∀ (hN:N < 1000000000),sP 262 2 [.int (N:Int) t] nPr (PInts (figs N))
theorem law_figures_P:∀ (N:Nat) (t:Tok),law_figures_S N t:=by
  intro N t
  intros hN
  k_extra "r1"
  intros B F X T hf hke hdp hun hpre hret
  refine wpAny_call ?_
  k_dflt refine' enterP (binds:=[(ofString "number",.int (N:Int) t)]) B F X T rfl hf hke ?k6 ?k7 ?k8 ?k9 ?kB ?c5 ?c2 ?c3 ?c4 ?_
  walk_at "m_fill"
  clear F X T B hf hke
  intro L' h₁ F N B X T;(try dsimp only)
  k_steps
  (rename Fr _ _ _ _=>F5);(rename News _ _ _ _=>N5)
  (replace N5:=N5;rw [fmod10] at N5)
  with_unfolding_all refine While_inv (FigsInv N) (n₀:=N) F5 N5 ⟨N,t,_,_,_,[((N % 10:Nat):Int)],_,rfl,by walk_at "k_canon",rfl,.cons _ _ .nil,Nat.le_refl _,by simp;omega,?a⟩ ?b
  case a =>
    by_cases h:N≤9
    · rw [if_pos h,fgS h,Nat.mod_eq_of_lt (by omega)]
    · rw [if_neg h,fgB (by omega)]
  case b =>
    clear F5 N5
    (intro n m₁ news₁ h₁ tk₁ F' N' zo1;(first | refine exE zo1 ?_ | refine aE zo1 ?_);clear zo1;intro x zz;k_extra "e";intro tx zz;k_extra "e";intro R zz;k_extra "e";intro ys zz;k_extra "e";intro c zz;k_extra "e";intro ms zz;k_extra "e";intro g zz;k_extra "e";intro zo2 zz;subst zo2;k_extra "e";intro zo3 zz;subst zo3;k_extra "e";intro zo4 zz;subst zo4;k_extra "e";intro hI zz;k_extra "e";intro hx zz;k_extra "e";intro hl hf)
    have hl2:=IntsAre.length hI
    by_cases h9 : 9 < n
    · have hl3 : ms.length≤10:=Nat.le_of_not_lt fun hc=>by
        have h1 : 10 ^ 11≤10 ^ ms.length:=Nat.pow_le_pow_right (by omega) hc
        have h2 : 10*10 ^ 11≤n*10 ^ ms.length:=Nat.mul_le_mul (by omega) h1
        omega
      have hd9:Fct (decide ((9:Int) < (n:Int))=true):=⟨decide_eq_true (by omega)⟩
      k_steps
      (rename Fr _ _ _ _=>F5);(rename News _ _ _ _=>N5);(rename IntsAre _ (_++_)=>hI5)
      (replace F5:=F5;rw [fdiv10] at F5)
      (replace hI5:=hI5;rw [fdiv10,fmod10] at hI5)
      refine ⟨rfl,_,_,_,_,n / 10,rfl,F5,newsOne N5,by omega,⟨n / 10,_,_,_,_,_,_,rfl,by walk_at "k_canon",rfl,hI5,by omega,?_,?_⟩⟩
      · have e1 : n / 10 * 10 ^ (1 + ms.length) = n / 10 * 10 * 10 ^ ms.length := by rw [Nat.pow_add, Nat.mul_assoc]
        have e2:=Nat.mul_le_mul_right (10 ^ ms.length) (Nat.div_mul_le_self n 10)
        simp only [List.length_append,List.length_cons,List.length_nil,Nat.zero_add]
        rw [e1];exact Nat.le_trans e2 hl
      · rw [hf, if_neg (by omega)]
        by_cases h8 : n / 10≤9
        · rw [if_pos h8,fgS h8,Nat.mod_eq_of_lt (by omega)]
        · rw [if_neg h8,fgB (by omega),List.append_assoc]
    · have hd9 : Fct (decide ((9 : Int) < (n : Int)) = false) := ⟨decide_eq_false (by omega)⟩
      k_steps
      refine hret _ _ _ F'.keep (Nat.le_trans F'.above (Nat.le_of_lt F'.ns.lt)) ?_
      rw [hf,if_pos (by omega)]
      exact pnew_of N' (.head _) ⟨_,_,rfl,hI⟩
theorem law_figures:∀ (N:Nat) (hN:N < 1000000000) (t:Tok),sP 262 2 [.int (N:Int) t] nPr (PInts (figs N)):=fun N hN t=>law_figures_P N t hN
example:True:=by
  k_with "oeqN"=>apply Lx.l287
  k_with "oleN"=>apply Lx.l39<;>assumption
  k_with "oand"=>apply Lx.l141<;>assumption
  k_with "oltI"=>apply Lx.l353<;>assumption
  k_with "oleN"=>apply Lx.l440<;>assumption
  k_with "ox"=>apply Lx.l1<;>assumption
  k_with "oleI"=>apply Lx.l224<;>assumption
  trivial
noncomputable def dgt (n:Int):Str:=⟨#[48+n.toNat]⟩
theorem item_digits {n:Int} (h0 : 0≤n) (h9 : n≤9):Txt.item (ofString "0123456789") n=dgt n:=by
  obtain ⟨k,rfl⟩:=Int.eq_ofNat_of_zero_le h0
  have hk : k=0∨k=1∨k=2∨k=3∨k=4∨k=5∨k=6∨k=7∨k=8∨k=9:=by omega
  rcases hk with rfl | rfl | rfl | rfl | rfl | rfl | rfl | rfl | rfl | rfl<;>rfl
theorem dgt_sum (ns:List Int):((ns.map dgt).map (·.length)).sum=ns.length:=by
  induction ns with
  | nil=>rfl
  | cons a r ih=>simp only [List.map_cons,List.sum_cons,List.length_cons,ih];show 1+_=_;omega
theorem strsSnoc {k : Str} {t : Tok} : ∀ {ys : List Value} {ms : List Str}, StrsAre ys ms → StrsAre (ys ++ [.str k t]) (ms ++ [k])
  | _,_,.nil=>.cons _ _ .nil
  | _,_,.cons a b h=>.cons a b (strsSnoc h)
example:True:=by
  k_with "eval ListComp"=>((k_extra "gF";(k_here;refine Stopped.go ?_)))
  k_with "ite"=>((k_extra "gF";(k_here;first | with_reducible refine ite_tt ?_ | with_reducible refine ite_ff ?_ | refine ite_pos (Fct.out (by with_reducible assumption)) ?_ | refine ite_neg (ne_true_of (Fct.out (by with_reducible assumption))) ?_ | refine ite_neg (Fct.out (by with_reducible assumption)) ?_ | ((refine iteF ?_ ?_)<;>intro _))))
  trivial
noncomputable def law_text_S (a:Addr) (vs:List Value) (ns:List Int):Prop:=∀ (hv:IntsAre vs ns) (hn:∀ n∈ns,0≤n∧n≤9) (hl : ns.length≤100),sP 267 2 [.ref a] (fun h=>h.IsList a vs.toArray) (PStr (Txt.join (ofString "") (ns.map dgt)))
theorem law_text_P:∀ (a:Addr) (vs:List Value) (ns:List Int),law_text_S a vs ns:=by
  intro a vs ns
  intros hv hn hl
  k_extra "r1"
  intros B F X T hf hke hdp hun hpre hret
  refine wpAny_call ?_
  k_dflt refine' enterP (binds:=[(ofString "figures",.ref a)]) B F X T rfl hf hke ?k6 ?k7 ?k8 ?k9 ?kB ?c5 ?c2 ?c3 ?c4 ?_
  walk_at "m_fill"
  clear F X T B hf hke
  intro L' h₁ F N B X T;(try dsimp only)
  k_steps
  (rename Fr _ _ _ _=>F5);(rename News _ _ _ _=>N5)
  show wpAny _ _ _ _ _ _
  refine LCg.ListComp_U (F₀:=F5) (by with_unfolding_all rfl) (by decide) (by rfl) (by decide) (by rfl) ?_
  walk1
  refine LCg.CompSrc.base (by rfl) F5 N5 hpre (by rw [List.size_toArray,IntsAre.length hv,PySem.sizeLine_eq];omega) ?_
  intro g'
  rw [List.size_toArray,IntsAre.length hv]
  refine compRest_inv (J:=fun i ys news=>news=[]∧StrsAre ys ((ns.take i).map dgt)) ⟨rfl,.nil⟩ ?_ ?_
  · (intro j ys'; intro _; intro hj zo2; (first | refine exE zo2 ?_ | refine aE zo2 ?_); clear zo2; intro zo3 hJ; subst zo3; intro v I2 oI2 C oC D m₂ h3 tk3 E' hPv hNs hm2 F' N' off' ne')
    (try (replace off':=off';simp only [LCg.Off3,and_true] at off'))
    ((first | refine exE (iG hv (by simpa using hPv)) ?_ | refine aE (iG hv (by simpa using hPv)) ?_);intro k;intro zz;k_extra "e";intro tk;intro zz;k_extra "e";intro zo1;intro hk;subst zo1)
    have hk0:=hn k (List.mem_of_getElem? hk)
    have hit:Fct (Txt.item (ofString "0123456789") k=dgt k):=⟨item_digits hk0.1 hk0.2⟩
    have hr9 : fitsSsize k=true:=by unfold fitsSsize;simp;omega
    k_steps
    rw [List.take_add_one,hk,List.map_append]
    show StrsAre _ (_++[dgt k])
    rw [← hit.out]
    exact strsSnoc hJ
  · (intro ys'; intro _; intro zo4; (first | refine exE zo4 ?_ | refine aE zo4 ?_); clear zo4; intro zo5 hJ; subst zo5)
    k_steps
    (rename Fr _ _ _ _=>F6);(rename News _ _ _ _=>N6)
    (replace hJ:=hJ;rw [List.take_length] at hJ)
    refine join_listW (News.isList (items:=ys'.toArray) N6 (.head _)) hJ (by decide) (by rw [dgt_sum,List.length_map];omega) ?_
    intros
    (repeat walk_at "x_out")
    refine hret _ _ _ F6.keep (Nat.le_trans F6.above (Nat.le_of_lt F6.ns.lt)) ⟨_,rfl⟩
theorem law_text:∀ (a:Addr) (vs:List Value) (ns:List Int) (hv:IntsAre vs ns) (hn:∀ n∈ns,0≤n∧n≤9) (hl : ns.length≤100),sP 267 2 [.ref a] (fun h=>h.IsList a vs.toArray) (PStr (Txt.join (ofString "") (ns.map dgt))):=fun a vs ns hv hn hl=>law_text_P a vs ns hv hn hl
example:True:=by
  k_with "oleI"=>apply Lx.l469
  k_with "oltI"=>apply Lx.l604
  k_with "oltI"=>apply Lx.l605
  k_with "oltI"=>apply Lx.l608
  k_with "oltI"=>apply Lx.l527
  k_with "oltI"=>apply Lx.l543
  k_with "oleN"=>apply Lx.l327
  k_with "oltI"=>apply Lx.l607
  k_with "oleI"=>apply Lx.l296
  k_with "oleN"=>apply Lx.l204
  k_with "oltN"=>apply Lx.l75<;>assumption
  k_with "oleI"=>apply Lx.l535
  k_with "oleN"=>apply Lx.l74
  k_with "oltN"=>apply Lx.l276<;>assumption
  k_with "oleN"=>apply Lx.l439<;>assumption
  trivial
noncomputable def meansB (p' q' r':Int) (fs:List Int) (n0 n1 n2:Int):List Bool :=
  [[p',q'].any (fun x=>x == n2),
   !([p',q'].any (fun x=>x == n1)),
   (fs.length:Int) == 2 && (decide (p'≤fs.getD (Int.toNat 0) 0) && decide (fs.getD (Int.toNat 0) 0≤q')),
   (fs.length:Int) == 2 && (decide (q'≤fs.getD (Int.toNat 0) 0) && decide (fs.getD (Int.toNat 0) 0≤p')),
   (fs++[n0,n1,n2]).any (fun x=>x == r'),
   decide ([n1,n2]=[r',r']),
   decide (fs=[r']),
   decide (1 < (fs.length:Int)) && (fs.getD (Int.toNat 0) 0 != p' && fs.getD (-1+(fs.length:Int)).toNat 0 != q'),
   [fs.getD (Int.toNat 0) 0,n0].any (fun x=>x == q') && n2 == r',
   !(decide (q'≤n2) && decide (n2≤p')),
   !(decide (p'≤n2) && decide (n2≤q'))]
example:True:=by
  k_with "eval Compare"=>((k_extra "gF";(k_here;(rename Mark=>zqhqxhm9);refine Stopped.go ?_)))
  k_with "eval BoolOp"=>((k_extra "gF";(k_here;(rename Mark=>zqhqyhm9);refine Stopped.go ?_)))
  k_with "assign Tuple"=>((k_extra "gF";(k_here;(with_reducible show wpAny _ _ (assign (Expr.Tuple _ _ _) _ (Value.ref _)) _ _ _);k_dflt (refine' kun_list ?kwk1 ?kwk2 ?kwk3 ?kwk4 ?kwk5 ?kwk6 ?_;(case kwk1=>k_asm);(case kwk2=>k_asm);(case kwk3=>exact Fr.lst (by k_asm) (by with_reducible assumption));(case kwk4=>exact rfl);(case kwk5=>exact rfl);(case kwk6=>exact rfl);k_whole);intro zqhqzh' zqhqzF' zqhqzN';(try k_sweep))))
  k_with "ite"=>((k_extra "gF";(k_here;first | with_reducible refine ite_tt ?_ | with_reducible refine ite_ff ?_ | refine ite_pos (Fct.out (by with_reducible assumption)) ?_ | refine ite_neg (ne_true_of (Fct.out (by with_reducible assumption))) ?_ | refine ite_neg (Fct.out (by with_reducible assumption)) ?_ | ((refine iteF ?_ ?_)<;>intro _))))
  trivial
noncomputable def law_means_S (a b c : Addr) (fs : List Int) (vs : List Value) (f0 : Int) (fr : List Int) (p' q' r' n0 n1 n2 : Int) (t1 t2 t3 t4 t5 t6 : Tok) : Prop := ∀ (hv : IntsAre vs fs) (hf : fs = f0 :: fr) (hl : fs.length ≤ 100), sP 281 2 [.ref a, .ref b, .ref c] (fun h => h.IsList a vs.toArray ∧ h.IsList b #[.int n0 t1, .int n1 t2, .int n2 t3] ∧ h.IsList c #[.int p' t4, .int q' t5, .int r' t6])
     (PNew fun o=>o={ cls:=.type "list",data:=.seq ((meansB p' q' r' fs n0 n1 n2).map Value.bool).toArray })
theorem law_means_P:∀ (a b c:Addr) (fs:List Int) (vs:List Value) (f0:Int) (fr:List Int) (p' q' r' n0 n1 n2:Int) (t1 t2 t3 t4 t5 t6:Tok),law_means_S a b c fs vs f0 fr p' q' r' n0 n1 n2 t1 t2 t3 t4 t5 t6:=by
  intro a b c fs vs f0 fr p' q' r' n0 n1 n2 t1 t2 t3 t4 t5 t6
  intros hv hf hl
  k_extra "r1"
  intros B F X T hf hke hdp hun hpre hret
  refine wpAny_call ?_
  k_dflt refine' enterP (binds:=[(ofString "folder",.ref a),(ofString "name",.ref b),(ofString "figures",.ref c)]) B F X T rfl hf hke ?k6 ?k7 ?k8 ?k9 ?kB ?c5 ?c2 ?c3 ?c4 ?_
  walk_at "m_fill"
  clear F X T B hf hke
  intro L' h₁ F N B X T;(try dsimp only)
  ((first | refine exE hpre ?_ | refine aE hpre ?_);clear hpre;intro hpa;intro zz;k_extra "e";intro hpb;intro hpc)
  have hmark:Mark:=.mk
  k_steps
  show wpAny _ _ _ _ _ _
  (rename Fr _ _ _ _=>F5);(rename News _ _ _ _=>N5)
  refine joinB ((fs.length:Int) == 2) F5 N5 ?_ ?_
  · (rename Mark => hm9; clear hm9); k_steps
    all_goals ((rename Fr _ _ _ _=>F6);(rename News _ _ _ _=>N6);refine PB.of F6 N6 (by lcg_sub) ?_)
    all_goals skip
    all_goals walk_at "k_bfin"
  clear F5 N5;intro h5 tk5 F5 N5;(try dsimp only);k_steps
  show wpAny _ _ _ _ _ _
  (rename Fr _ _ _ _=>F5);(rename News _ _ _ _=>N5)
  refine joinB ([p',q'].any (fun x=>x == [n0,n1,n2].getD (Int.toNat 2) 0)) F5 N5 ?_ ?_
  · (rename Mark => hm9; clear hm9); k_steps
    all_goals ((rename Fr _ _ _ _=>F6);(rename News _ _ _ _=>N6);refine PB.of F6 N6 (by lcg_sub) ?_)
    all_goals skip
    all_goals walk_at "k_bfin"
  clear F5 N5;intro h5 tk5 F5 N5;(try dsimp only);k_steps
  show wpAny _ _ _ _ _ _
  (rename Fr _ _ _ _=>F5);(rename News _ _ _ _=>N5)
  refine joinB (!([p',q'].any (fun x=>x == [n0,n1,n2].getD (Int.toNat 1) 0))) F5 N5 ?_ ?_
  · (rename Mark => hm9; clear hm9); k_steps
    all_goals ((rename Fr _ _ _ _=>F6);(rename News _ _ _ _=>N6);refine PB.of F6 N6 (by lcg_sub) ?_)
    all_goals skip
    all_goals walk_at "k_bfin"
  clear F5 N5;intro h5 tk5 F5 N5;(try dsimp only);k_steps
  show wpAny _ _ _ _ _ _
  (rename Fr _ _ _ _=>F5);(rename News _ _ _ _=>N5)
  refine joinB ((fs.length:Int) == 2 && (decide (p'≤fs.getD (Int.toNat 0) 0) && decide (fs.getD (Int.toNat 0) 0≤q'))) F5 N5 ?_ ?_
  · (rename Mark => hm9; clear hm9); k_steps
    all_goals ((rename Fr _ _ _ _=>F6);(rename News _ _ _ _=>N6);refine PB.of F6 N6 (by lcg_sub) ?_)
    all_goals skip
    all_goals walk_at "k_bfin"
  clear F5 N5;intro h5 tk5 F5 N5;(try dsimp only);k_steps
  show wpAny _ _ _ _ _ _
  (rename Fr _ _ _ _=>F5);(rename News _ _ _ _=>N5)
  refine joinB ((fs.length:Int) == 2 && (decide (q'≤fs.getD (Int.toNat 0) 0) && decide (fs.getD (Int.toNat 0) 0≤p'))) F5 N5 ?_ ?_
  · (rename Mark => hm9; clear hm9); k_steps
    all_goals ((rename Fr _ _ _ _=>F6);(rename News _ _ _ _=>N6);refine PB.of F6 N6 (by lcg_sub) ?_)
    all_goals skip
    all_goals walk_at "k_bfin"
  clear F5 N5;intro h5 tk5 F5 N5;(try dsimp only);k_steps
  show wpAny _ _ _ _ _ _
  (rename Fr _ _ _ _=>F5);(rename News _ _ _ _=>N5)
  refine joinB ((fs++[n0,n1,n2]).any (fun x=>x == r')) F5 N5 ?_ ?_
  · (rename Mark => hm9; clear hm9); k_steps
    all_goals ((rename Fr _ _ _ _=>F6);(rename News _ _ _ _=>N6);refine PB.of F6 N6 (by lcg_sub) ?_)
    all_goals skip
    all_goals walk_at "k_bfin"
  clear F5 N5;intro h5 tk5 F5 N5;(try dsimp only);k_steps
  show wpAny _ _ _ _ _ _
  (rename Fr _ _ _ _=>F5);(rename News _ _ _ _=>N5)
  refine joinB (decide ([n1,n2]=[r',r'])) F5 N5 ?_ ?_
  · (rename Mark => hm9; clear hm9); k_steps
    all_goals ((rename Fr _ _ _ _=>F6);(rename News _ _ _ _=>N6);refine PB.of F6 N6 (by lcg_sub) ?_)
    all_goals skip
    all_goals walk_at "k_bfin"
  clear F5 N5;intro h5 tk5 F5 N5;(try dsimp only);k_steps
  show wpAny _ _ _ _ _ _
  (rename Fr _ _ _ _=>F5);(rename News _ _ _ _=>N5)
  refine joinB (decide (fs=[r'])) F5 N5 ?_ ?_
  · (rename Mark => hm9; clear hm9); k_steps
    all_goals ((rename Fr _ _ _ _=>F6);(rename News _ _ _ _=>N6);refine PB.of F6 N6 (by lcg_sub) ?_)
    all_goals skip
    all_goals walk_at "k_bfin"
  clear F5 N5;intro h5 tk5 F5 N5;(try dsimp only);k_steps
  show wpAny _ _ _ _ _ _
  (rename Fr _ _ _ _=>F5);(rename News _ _ _ _=>N5)
  refine joinB (decide (1 < (fs.length:Int)) && (fs.getD (Int.toNat 0) 0 != p' && fs.getD (-1+(fs.length:Int)).toNat 0 != q')) F5 N5 ?_ ?_
  · (rename Mark => hm9; clear hm9); k_steps
    all_goals ((rename Fr _ _ _ _=>F6);(rename News _ _ _ _=>N6);refine PB.of F6 N6 (by lcg_sub) ?_)
    all_goals skip
    all_goals walk_at "k_bfin"
  clear F5 N5;intro h5 tk5 F5 N5;(try dsimp only);k_steps
  show wpAny _ _ _ _ _ _
  (rename Fr _ _ _ _=>F5);(rename News _ _ _ _=>N5)
  refine joinB ([fs.getD (Int.toNat 0) 0,[n0,n1,n2].getD (Int.toNat 0) 0].any (fun x=>x == q') && [n0,n1,n2].getD (Int.toNat 2) 0 == r') F5 N5 ?_ ?_
  · (rename Mark => hm9; clear hm9); k_steps
    all_goals ((rename Fr _ _ _ _=>F6);(rename News _ _ _ _=>N6);refine PB.of F6 N6 (by lcg_sub) ?_)
    all_goals skip
    all_goals walk_at "k_bfin"
  clear F5 N5;intro h5 tk5 F5 N5;(try dsimp only);k_steps
  show wpAny _ _ _ _ _ _
  (rename Fr _ _ _ _=>F5);(rename News _ _ _ _=>N5)
  refine joinB (decide (q'≤[n0,n1,n2].getD (Int.toNat 2) 0) && decide ([n0,n1,n2].getD (Int.toNat 2) 0≤p')) F5 N5 ?_ ?_
  · (rename Mark => hm9; clear hm9); k_steps
    all_goals ((rename Fr _ _ _ _=>F6);(rename News _ _ _ _=>N6);refine PB.of F6 N6 (by lcg_sub) ?_)
    all_goals skip
    all_goals walk_at "k_bfin"
  clear F5 N5;intro h5 tk5 F5 N5;(try dsimp only);k_steps
  show wpAny _ _ _ _ _ _
  (rename Fr _ _ _ _=>F5);(rename News _ _ _ _=>N5)
  refine joinB (decide (p'≤[n0,n1,n2].getD (Int.toNat 2) 0) && decide ([n0,n1,n2].getD (Int.toNat 2) 0≤q')) F5 N5 ?_ ?_
  · (rename Mark => hm9; clear hm9); k_steps
    all_goals ((rename Fr _ _ _ _=>F6);(rename News _ _ _ _=>N6);refine PB.of F6 N6 (by lcg_sub) ?_)
    all_goals skip
    all_goals walk_at "k_bfin"
  clear F5 N5;intro h5 tk5 F5 N5;(try dsimp only);k_steps
  all_goals (rename Fr _ _ _ _=>F9);refine hret _ _ _ F9.keep (Nat.le_trans F9.above (Nat.le_of_lt F9.ns.lt)) ?_
  (rename News _ _ _ _=>N9)
  exact pnew_of N9 (.head _) rfl
theorem law_means : ∀ (a b c : Addr) (fs : List Int) (vs : List Value) (hv : IntsAre vs fs) (f0 : Int) (fr : List Int) (hf : fs = f0 :: fr) (hl : fs.length ≤ 100) (p' q' r' n0 n1 n2 : Int) (t1 t2 t3 t4 t5 t6 : Tok), sP 281 2 [.ref a, .ref b, .ref c] (fun h => h.IsList a vs.toArray ∧ h.IsList b #[.int n0 t1, .int n1 t2, .int n2 t3] ∧ h.IsList c #[.int p' t4, .int q' t5, .int r' t6])
     (PNew fun o=>o={ cls:=.type "list",data:=.seq ((meansB p' q' r' fs n0 n1 n2).map Value.bool).toArray }):=fun a b c fs vs hv f0 fr hf hl p' q' r' n0 n1 n2 t1 t2 t3 t4 t5 t6=>law_means_P a b c fs vs f0 fr p' q' r' n0 n1 n2 t1 t2 t3 t4 t5 t6 hv hf hl
example:True:=by
  k_with "oleI"=>apply Lx.l297<;>assumption
  k_with "oltI"=>apply Lx.l404<;>assumption
  k_with "oltI"=>apply Lx.l574<;>assumption
  k_with "oleI"=>apply Lx.l208
  k_with "of"=>apply Lx.l452<;>assumption
  k_with "oltI"=>apply Lx.l553<;>assumption
  k_with "oltI"=>apply Lx.l350<;>assumption
  k_with "oleI"=>apply Lx.l416
  k_with "oltI"=>apply Lx.l568<;>assumption
  k_with "oleI"=>apply Lx.l480
  k_with "of"=>apply Lx.l602<;>assumption
  k_with "oltI"=>apply Lx.l556<;>assumption
  trivial
noncomputable def sign_any_S (x y:Str) (t u:Tok):Prop:=∀ (h:Fct ((x == ofString "any")=true)),sP 288 2 [.str x t,.str y u] nPr (PBool true)
theorem sign_any_P:∀ (x y:Str) (t u:Tok),sign_any_S x y t u:=by
  intro x y t u
  intros h
  k_extra "r1"
  intros B F X T hf hke hdp hun hpre hret
  refine wpAny_call ?_
  k_extra "r12"
  walk_at "m_fill"
  clear F X T B hf hke
  intro L' h₁ F N B X T;(try dsimp only)
  k_steps
  all_goals (rename Fr _ _ _ _=>F9);refine hret _ _ _ F9.keep (Nat.le_trans F9.above (Nat.le_of_lt F9.ns.lt)) ?_
  all_goals exact pbool_of rfl
theorem sign_any:∀ (x y:Str) (t u:Tok) (h:Fct ((x == ofString "any")=true)),sP 288 2 [.str x t,.str y u] nPr (PBool true):=fun x y t u h=>sign_any_P x y t u h
noncomputable def sign_dot_S (x y:Str) (t u:Tok):Prop:=∀ (h:Fct ((x == ofString "any")=false)) (h':Fct ((x == ofString ".")=true)),sP 288 2 [.str x t,.str y u] nPr (PBool true)
theorem sign_dot_P:∀ (x y:Str) (t u:Tok),sign_dot_S x y t u:=by
  intro x y t u
  intros h h'
  k_extra "r1"
  intros B F X T hf hke hdp hun hpre hret
  refine wpAny_call ?_
  k_extra "r12"
  walk_at "m_fill"
  clear F X T B hf hke
  intro L' h₁ F N B X T;(try dsimp only)
  k_steps
  all_goals (rename Fr _ _ _ _=>F9);refine hret _ _ _ F9.keep (Nat.le_trans F9.above (Nat.le_of_lt F9.ns.lt)) ?_
  all_goals exact pbool_of rfl
theorem sign_dot:∀ (x y:Str) (t u:Tok) (h:Fct ((x == ofString "any")=false)) (h':Fct ((x == ofString ".")=true)),sP 288 2 [.str x t,.str y u] nPr (PBool true):=fun x y t u h h'=>sign_dot_P x y t u h h'
noncomputable def sign_plain_S (x y z:Str) (t u:Tok) (a b:Str):Prop:=∀ (hx : x.length≤100) (hx1 : 1≤x.length) (h:Fct ((x == ofString "any")=false)) (h':Fct ((x == ofString ".")=false)) (h1:Fct (Txt.item x 0=a)) (h2:Fct ((a != ofString "[")=true)) (h3:Fct (Txt.item x (-1)=b)),sP 288 2 [.str x t,.str y u] nPr (PBool (b == y))
theorem sign_plain_P:∀ (x y z:Str) (t u:Tok) (a b:Str),sign_plain_S x y z t u a b:=by
  intro x y z t u a b
  intros hx hx1 h h' h1 h2 h3
  k_extra "r1"
  intros B F X T hf hke hdp hun hpre hret
  refine wpAny_call ?_
  k_extra "r12"
  walk_at "m_fill"
  clear F X T B hf hke
  intro L' h₁ F N B X T;(try dsimp only)
  k_steps
  all_goals (rename Fr _ _ _ _=>F9);refine hret _ _ _ F9.keep (Nat.le_trans F9.above (Nat.le_of_lt F9.ns.lt)) ?_
  all_goals exact pbool_of rfl
theorem sign_plain:∀ (x y z:Str) (t u:Tok) (hx : x.length≤100) (hx1 : 1≤x.length) (h:Fct ((x == ofString "any")=false)) (h':Fct ((x == ofString ".")=false)) (a b:Str) (h1:Fct (Txt.item x 0=a)) (h2:Fct ((a != ofString "[")=true)) (h3:Fct (Txt.item x (-1)=b)),sP 288 2 [.str x t,.str y u] nPr (PBool (b == y)):=fun x y z t u hx hx1 h h' a b h1 h2 h3=>sign_plain_P x y z t u a b hx hx1 h h' h1 h2 h3
noncomputable def sign_in_S (x y a0 a1 rest:Str) (t u:Tok):Prop:=∀ (hx : x.length≤100) (hx1 : 2≤x.length) (hr : rest.length≤100) (h:Fct ((x == ofString "any")=false)) (h':Fct ((x == ofString ".")=false)) (h1:Fct (Txt.item x 0=a0)) (h2:Fct ((a0 != ofString "[")=false)) (h3:Fct (Txt.item x 1=a1)) (h4:Fct ((a1 == ofString "^")=false)) (h5:Fct (Txt.slice x (some 1) (some (-1))=rest)) (h6:Fct (((rest.length:Int) == 3)=false)),sP 288 2 [.str x t,.str y u] nPr (PBool ((!(Builtin.Str.occurrences rest y 0 rest.length 1).isEmpty) != (a1 == ofString "^")))
theorem sign_in_P:∀ (x y a0 a1 rest:Str) (t u:Tok),sign_in_S x y a0 a1 rest t u:=by
  intro x y a0 a1 rest t u
  intros hx hx1 hr h h' h1 h2 h3 h4 h5 h6
  k_extra "r1"
  intros B F X T hf hke hdp hun hpre hret
  refine wpAny_call ?_
  k_extra "r12"
  walk_at "m_fill"
  clear F X T B hf hke
  intro L' h₁ F N B X T;(try dsimp only)
  k_steps
  all_goals (rename Fr _ _ _ _=>F9);refine hret _ _ _ F9.keep (Nat.le_trans F9.above (Nat.le_of_lt F9.ns.lt)) ?_
  all_goals exact pbool_of rfl
theorem sign_in : ∀ (x y a0 a1 rest : Str) (t u : Tok) (hx : x.length ≤ 100) (hx1 : 2 ≤ x.length) (hr : rest.length ≤ 100) (h : Fct ((x == ofString "any") = false)) (h' : Fct ((x == ofString ".") = false)) (h1 : Fct (Txt.item x 0 = a0)) (h2 : Fct ((a0 != ofString "[") = false))
   (h3:Fct (Txt.item x 1=a1)) (h4:Fct ((a1 == ofString "^")=false)) (h5:Fct (Txt.slice x (some 1) (some (-1))=rest)) (h6:Fct (((rest.length:Int) == 3)=false)),sP 288 2 [.str x t,.str y u] nPr (PBool ((!(Builtin.Str.occurrences rest y 0 rest.length 1).isEmpty) != (a1 == ofString "^"))):=fun x y a0 a1 rest t u hx hx1 hr h h' h1 h2 h3 h4 h5 h6=>sign_in_P x y a0 a1 rest t u hx hx1 hr h h' h1 h2 h3 h4 h5 h6
noncomputable def sign_notin_S (x y a0 a1 rest:Str) (t u:Tok):Prop:=∀ (hx : x.length≤100) (hx1 : 2≤x.length) (hr : rest.length≤100) (h:Fct ((x == ofString "any")=false)) (h':Fct ((x == ofString ".")=false)) (h1:Fct (Txt.item x 0=a0)) (h2:Fct ((a0 != ofString "[")=false)) (h3:Fct (Txt.item x 1=a1)) (h4:Fct ((a1 == ofString "^")=true)) (h5:Fct (Txt.slice x (some 2) (some (-1))=rest)) (h6:Fct (((rest.length:Int) == 3)=false)),sP 288 2 [.str x t,.str y u] nPr (PBool ((!(Builtin.Str.occurrences rest y 0 rest.length 1).isEmpty) != (a1 == ofString "^")))
theorem sign_notin_P:∀ (x y a0 a1 rest:Str) (t u:Tok),sign_notin_S x y a0 a1 rest t u:=by
  intro x y a0 a1 rest t u
  intros hx hx1 hr h h' h1 h2 h3 h4 h5 h6
  k_extra "r1"
  intros B F X T hf hke hdp hun hpre hret
  refine wpAny_call ?_
  k_extra "r12"
  walk_at "m_fill"
  clear F X T B hf hke
  intro L' h₁ F N B X T;(try dsimp only)
  k_steps
  all_goals (rename Fr _ _ _ _=>F9);refine hret _ _ _ F9.keep (Nat.le_trans F9.above (Nat.le_of_lt F9.ns.lt)) ?_
  all_goals exact pbool_of rfl
theorem sign_notin : ∀ (x y a0 a1 rest : Str) (t u : Tok) (hx : x.length ≤ 100) (hx1 : 2 ≤ x.length) (hr : rest.length ≤ 100) (h : Fct ((x == ofString "any") = false)) (h' : Fct ((x == ofString ".") = false)) (h1 : Fct (Txt.item x 0 = a0)) (h2 : Fct ((a0 != ofString "[") = false))
   (h3:Fct (Txt.item x 1=a1)) (h4:Fct ((a1 == ofString "^")=true)) (h5:Fct (Txt.slice x (some 2) (some (-1))=rest)) (h6:Fct (((rest.length:Int) == 3)=false)),sP 288 2 [.str x t,.str y u] nPr (PBool ((!(Builtin.Str.occurrences rest y 0 rest.length 1).isEmpty) != (a1 == ofString "^"))):=fun x y a0 a1 rest t u hx hx1 hr h h' h1 h2 h3 h4 h5 h6=>sign_notin_P x y a0 a1 rest t u hx hx1 hr h h' h1 h2 h3 h4 h5 h6
example:True:=by
  k_with "ite"=>((k_extra "gF";(k_here;first | with_reducible refine ite_tt ?_ | with_reducible refine ite_ff ?_ | refine ite_pos (Fct.out (by with_reducible assumption)) ?_ | refine ite_neg (ne_true_of (Fct.out (by with_reducible assumption))) ?_ | refine ite_neg (Fct.out (by with_reducible assumption)) ?_ | ((refine iteF ?_ ?_)<;>intro _))))
  trivial
noncomputable def sign_range_S (x y a0 a1 rest lo mi hi:Str) (t u:Tok):Prop:=∀ (hx : x.length≤100) (hx1 : 2≤x.length) (hr : rest.length≤100) (h:Fct ((x == ofString "any")=false)) (h':Fct ((x == ofString ".")=false)) (h1:Fct (Txt.item x 0=a0)) (h2:Fct ((a0 != ofString "[")=false)) (h3:Fct (Txt.item x 1=a1)) (h4:Fct ((a1 == ofString "^")=false)) (h5:Fct (Txt.slice x (some 1) (some (-1))=rest)) (hr3 : rest.length=3) (h6:Fct (((rest.length:Int) == 3)=true)) (h7:Fct (Txt.item rest 0=lo)) (h8:Fct (Txt.item rest 1=mi)) (h9:Fct (Txt.item rest 2=hi)) (h10:Fct ((mi == ofString "-")=true)),sP 288 2 [.str x t,.str y u] nPr (PBool (((!decide (y.cps.toList < lo.cps.toList)) && (!decide (hi.cps.toList < y.cps.toList))) != (a1 == ofString "^")))
theorem sign_range_P:∀ (x y a0 a1 rest lo mi hi:Str) (t u:Tok),sign_range_S x y a0 a1 rest lo mi hi t u:=by
  intro x y a0 a1 rest lo mi hi t u
  intros hx hx1 hr h h' h1 h2 h3 h4 h5 hr3 h6 h7 h8 h9 h10
  k_extra "r1"
  intros B F X T hf hke hdp hun hpre hret
  refine wpAny_call ?_
  k_extra "r12"
  walk_at "m_fill"
  clear F X T B hf hke
  intro L' h₁ F N B X T;(try dsimp only)
  k_steps
  all_goals (rename Fr _ _ _ _=>F9);refine hret _ _ _ F9.keep (Nat.le_trans F9.above (Nat.le_of_lt F9.ns.lt)) ?_
  k_extra "r13"
theorem sign_range : ∀ (x y a0 a1 rest lo mi hi : Str) (t u : Tok) (hx : x.length ≤ 100) (hx1 : 2 ≤ x.length) (hr : rest.length ≤ 100) (h : Fct ((x == ofString "any") = false)) (h' : Fct ((x == ofString ".") = false)) (h1 : Fct (Txt.item x 0 = a0)) (h2 : Fct ((a0 != ofString "[") = false))
   (h3:Fct (Txt.item x 1=a1)) (h4:Fct ((a1 == ofString "^")=false)) (h5:Fct (Txt.slice x (some 1) (some (-1))=rest)) (hr3 : rest.length=3) (h6:Fct (((rest.length:Int) == 3)=true)) (h7:Fct (Txt.item rest 0=lo)) (h8:Fct (Txt.item rest 1=mi)) (h9:Fct (Txt.item rest 2=hi)) (h10:Fct ((mi == ofString "-")=true)),sP 288 2 [.str x t,.str y u] nPr (PBool (((!decide (y.cps.toList < lo.cps.toList)) && (!decide (hi.cps.toList < y.cps.toList))) != (a1 == ofString "^"))):=fun x y a0 a1 rest lo mi hi t u hx hx1 hr h h' h1 h2 h3 h4 h5 hr3 h6 h7 h8 h9 h10=>sign_range_P x y a0 a1 rest lo mi hi t u hx hx1 hr h h' h1 h2 h3 h4 h5 hr3 h6 h7 h8 h9 h10
noncomputable def sign_nrange_S (x y a0 a1 rest lo mi hi:Str) (t u:Tok):Prop:=∀ (hx : x.length≤100) (hx1 : 2≤x.length) (hr : rest.length≤100) (h:Fct ((x == ofString "any")=false)) (h':Fct ((x == ofString ".")=false)) (h1:Fct (Txt.item x 0=a0)) (h2:Fct ((a0 != ofString "[")=false)) (h3:Fct (Txt.item x 1=a1)) (h4:Fct ((a1 == ofString "^")=true)) (h5:Fct (Txt.slice x (some 2) (some (-1))=rest)) (hr3 : rest.length=3) (h6:Fct (((rest.length:Int) == 3)=true)) (h7:Fct (Txt.item rest 0=lo)) (h8:Fct (Txt.item rest 1=mi)) (h9:Fct (Txt.item rest 2=hi)) (h10:Fct ((mi == ofString "-")=true)),sP 288 2 [.str x t,.str y u] nPr (PBool (((!decide (y.cps.toList < lo.cps.toList)) && (!decide (hi.cps.toList < y.cps.toList))) != (a1 == ofString "^")))
theorem sign_nrange_P:∀ (x y a0 a1 rest lo mi hi:Str) (t u:Tok),sign_nrange_S x y a0 a1 rest lo mi hi t u:=by
  intro x y a0 a1 rest lo mi hi t u
  intros hx hx1 hr h h' h1 h2 h3 h4 h5 hr3 h6 h7 h8 h9 h10
  k_extra "r1"
  intros B F X T hf hke hdp hun hpre hret
  refine wpAny_call ?_
  k_extra "r12"
  walk_at "m_fill"
  clear F X T B hf hke
  intro L' h₁ F N B X T;(try dsimp only)
  k_steps
  all_goals (rename Fr _ _ _ _=>F9);refine hret _ _ _ F9.keep (Nat.le_trans F9.above (Nat.le_of_lt F9.ns.lt)) ?_
  k_extra "r13"
theorem sign_nrange : ∀ (x y a0 a1 rest lo mi hi : Str) (t u : Tok) (hx : x.length ≤ 100) (hx1 : 2 ≤ x.length) (hr : rest.length ≤ 100) (h : Fct ((x == ofString "any") = false)) (h' : Fct ((x == ofString ".") = false)) (h1 : Fct (Txt.item x 0 = a0)) (h2 : Fct ((a0 != ofString "[") = false))
   (h3:Fct (Txt.item x 1=a1)) (h4:Fct ((a1 == ofString "^")=true)) (h5:Fct (Txt.slice x (some 2) (some (-1))=rest)) (hr3 : rest.length=3) (h6:Fct (((rest.length:Int) == 3)=true)) (h7:Fct (Txt.item rest 0=lo)) (h8:Fct (Txt.item rest 1=mi)) (h9:Fct (Txt.item rest 2=hi)) (h10:Fct ((mi == ofString "-")=true)),sP 288 2 [.str x t,.str y u] nPr (PBool (((!decide (y.cps.toList < lo.cps.toList)) && (!decide (hi.cps.toList < y.cps.toList))) != (a1 == ofString "^"))):=fun x y a0 a1 rest lo mi hi t u hx hx1 hr h h' h1 h2 h3 h4 h5 hr3 h6 h7 h8 h9 h10=>sign_nrange_P x y a0 a1 rest lo mi hi t u hx hx1 hr h h' h1 h2 h3 h4 h5 hr3 h6 h7 h8 h9 h10
example:True:=by
  k_with "oltN"=>apply Lx.l415<;>assumption
  k_with "oltN"=>apply Lx.l132<;>assumption
  k_with "oltI"=>apply Lx.l313<;>assumption
  k_with "oltN"=>apply Lx.l133<;>assumption
  k_with "oltN"=>apply Lx.l210<;>assumption
  k_with "oltI"=>apply Lx.l528
  k_with "oltI"=>apply Lx.l401
  k_with "oleI"=>apply Lx.l372<;>assumption
  k_with "oltN"=>apply Lx.l112<;>assumption
  k_with "oleI"=>apply Lx.l460<;>assumption
  k_with "oltI"=>apply Lx.l366<;>assumption
  k_with "oltI"=>apply Lx.l500<;>assumption
  k_with "oltN"=>apply Lx.l307<;>assumption
  k_with "oltN"=>apply Lx.l205<;>assumption
  k_with "oltN"=>apply Lx.l349<;>assumption
  k_with "oleI"=>apply Lx.l474<;>assumption
  trivial
example:True:=by
  k_with "binaryOp Mult ref int"=>((k_extra "gF";(k_here;(with_reducible show wpAny _ _ (binaryOp Operator.Mult (Value.ref _) (Value.int _ _)) _ _ _);(rename Fct (Int.fdiv _ _=_)=>zq99dhf9);rw [zq99dhf9.out];k_dflt (refine' KMa.mul ?kwF ?kwN ?kwl ?kwlo ?kwhi ?kwz ?kwe ?_;(case kwF=>k_asm);(case kwN=>k_asm);(case kwl=>is_list);(case kwlo=>first | omega | decide);(case kwhi=>first | omega | decide);(case kwz=>(simp only [List.length_cons,List.length_nil];decide));(case kwe=>(simp only [Int.reduceToNat,List.replicate_succ,List.replicate_zero,List.flatten_cons,List.flatten_nil,List.cons_append,List.nil_append,List.append_nil];first | done | exact rfl));k_whole);intro zq99dD' zq99dh' zq99dF' zq99dN' zq99dl1;(try k_lt zq99dl1);(try k_sweep))))
  k_with "call ref"=>((k_extra "gF";(k_here;kn_here;k_dflt (refine wpAny_call ?_;(refine' code_nest ?kwk1 ?kwk2 ?kwk3 ?kwk4 ?kwk5 ?kwkA ?kwkF ?kwkK ?kwk6 ?kwk7 ?kwk8 ?kwk9 ?kwkB ?_ ?kwc2 ?kwc3 ?kwc4 ?kwc5;(case kwkA=>exact rfl);(case kwkF=>first | exact rfl | assumption);(case kwkK=>first | exact rfl | assumption);(case kwk1=>k_asm);(case kwk2=>k_asm);(case kwk3=>k_asm);(case kwk4=>k_asm);(case kwk5=>k_asm);(case kwk6=>k_mem);(case kwk7=>exact codeRec_news (by k_asm) (by k_mem) (by assumption) (by assumption));(case kwk8=>(show _ < 1000;(k_extra "s1");(try dsimp only);omega));(case kwk9=>exact BindsTo.of_eq rfl);(case kwc5=>decide);(case kwkB=>exact locs rfl);(case kwc2=>exact rfl);(case kwc3=>exact rfl);(case kwc4=>exact rfl);k_whole;intro zq99eg' zq99eL' zq99eh' zq99eFG' zq99eF' zq99eN' zq99eB' zq99eX' zq99eT';(try dsimp only);(try k_lift zq99eB'))))))
  trivial
noncomputable def inSt:Stmt:=((H.fb (H.st 15))[1]?).getD H.nost
noncomputable def inFn (c1 c2 c3 cP:Addr) (dc nm ct:Value):Obj:=fnMade (ofString "inner") (ofString "_int2digits.<locals>.inner") (H.fa inSt) (H.fb inSt) (H.fs inSt) [(ofString "n",c1),(ofString "inner",c3),(ofString "a_digits",c2)] dc nm cP ct
set_option genInjectivity false in
structure InX where
  prog:Program
  w:World
  p:Program
  loose:List Str
  mean:ExcName→Option Value
  mg:Str→Option Value
  mb:Str→Option Value
  env:Env
  outer:List Env
  A₀:Around
  base:Heap
  g:Heap
  L:Addr
  m:Str→Option Value
  s:Shared
  Q:Value→Shared→Prop
  E:Value→Shared→Prop
  dp:Nat
  gd:Option (List Code)
  un:Nat
  f:Addr
  l:Addr
  D:Addr
  c1:Addr
  c2:Addr
  c3:Addr
  cP:Addr
  o1:Obj
  o2:Obj
  o3:Obj
  ocP:Obj
  xs:Array Value
  xl:Array Value
  nx:Nat
  nl:Nat
  dc:Value
  nm:Value
  ct:Value
  ps:Array Value
  vs:Array Value
  tq:Tok
  t:Tok
  u:Tok
  v:Tok
  k:Tok
theorem nX:Nonempty InX:=⟨⟨default,Classical.choice neW,default,default,default,default,default,default,default,{},default,default,default,default,{},default,default,default,default,default,default,default,default,default,default,default,default,default,default,default,default,default,default,default,default,default,default,default,default,default,default,default,default,default,default⟩⟩
noncomputable def InB (n:Nat) (lo hi x:Int) (R:List Value→List Value→Prop) (c:InX):Prop :=
    c.dp+n+1 < 500→c.un+10*(n+1) < 5000→c.env.frame=some c.L→c.env.scope.kind=.function→Below c.A₀ c.base c.outer c.g→(hd.heap_1 c.w.params).In c.g→Top c.p c.loose c.mean c.mg c.mb c.g →
    c.ocP.data=Data.fields c.vs→c.vs[1]?=some (Value.str (ofString "_int2digits.<locals>.inner") c.tq) →
    c.o1.data=Data.cell (some (Value.int 10 c.k))→c.o2.data=Data.cell (some (Value.ref c.D))→c.o3.data=Data.cell (some (Value.ref c.f)) →
    (c.D < c.f∧c.l < c.f∧c.c3 < c.f∧c.c2 < c.f∧c.c1 < c.f∧100 < c.f∧c.cP < c.f)→(c.l < c.D∧c.c3 < c.D∧c.c2 < c.D∧c.c1 < c.D∧100 < c.D)→Fct (@Ne Nat c.cP c.D) →
    hi≤(c.xs.size:Int)→Fr c.g c.L c.s.heap c.m →
    News c.g c.L c.s.heap [(c.f,inFn c.c1 c.c2 c.c3 c.cP c.dc c.nm c.ct),(c.D,W.listOf c.xs c.nx),(c.l,W.listOf c.xl c.nl),(c.c3,c.o3),(c.c2,c.o2),(c.c1,c.o1),(100,tabObj c.ps),(c.cP,c.ocP)] →
    (∀ h' tk' q,R c.xs.toList q→Fr c.g c.L h' c.m→News c.g c.L h' [(c.f,inFn c.c1 c.c2 c.c3 c.cP c.dc c.nm c.ct),(c.D,W.listOf q.toArray c.nx),(c.l,W.listOf c.xl c.nl),(c.c3,c.o3),(c.c2,c.o2),(c.c1,c.o1),(100,tabObj c.ps),(c.cP,c.ocP)]→c.Q .none { heap:=h',gens:=c.s.gens,drawn:=c.s.drawn,toks:=tk',os:=c.s.os }) →
    wpAny (model c.prog c.w) ⟨none,c.dp,some (c.env::c.outer),c.gd,c.un⟩ (call (.ref c.f) [.int x c.t,.int lo c.u,.int hi c.v]) c.Q c.E c.s
noncomputable def InQ (n:Nat) (lo hi x:Int) (R:List Value→List Value→Prop):Prop:=∀ {prog:Program} {w:World} {p:Program} {loose:List Str} {mean:ExcName→Option Value} {mg:Str→Option Value} {mb:Str→Option Value} {env:Env} {outer:List Env} {A₀:Around} {base:Heap} {g:Heap} {L:Addr} {m:Str→Option Value} {s:Shared} {Q:Value→Shared→Prop} {E:Value→Shared→Prop} {dp:Nat} {gd:Option (List Code)} {un:Nat} {f:Addr} {l:Addr} {D:Addr} {c1:Addr} {c2:Addr} {c3:Addr} {cP:Addr} {o1:Obj} {o2:Obj} {o3:Obj} {ocP:Obj} {xs:Array Value} {xl:Array Value} {nx:Nat} {nl:Nat} {dc:Value} {nm:Value} {ct:Value} {ps:Array Value} {vs:Array Value} {tq:Tok} {t:Tok} {u:Tok} {v:Tok} {k:Tok},dp+n+1 < 500→un+10*(n+1) < 5000→env.frame=some L→env.scope.kind=.function→Below A₀ base outer g→(hd.heap_1 w.params).In g→Top p loose mean mg mb g →
    ocP.data=Data.fields vs→vs[1]?=some (Value.str (ofString "_int2digits.<locals>.inner") tq) →
    o1.data=Data.cell (some (Value.int 10 k))→o2.data=Data.cell (some (Value.ref D))→o3.data=Data.cell (some (Value.ref f)) →
    (D < f∧l < f∧c3 < f∧c2 < f∧c1 < f∧100 < f∧cP < f)→(l < D∧c3 < D∧c2 < D∧c1 < D∧100 < D)→Fct (@Ne Nat cP D) →
    hi≤(xs.size:Int)→Fr g L s.heap m →
    News g L s.heap [(f,inFn c1 c2 c3 cP dc nm ct),(D,W.listOf xs nx),(l,W.listOf xl nl),(c3,o3),(c2,o2),(c1,o1),(100,tabObj ps),(cP,ocP)] →
    (∀ h' tk' q,R xs.toList q→Fr g L h' m→News g L h' [(f,inFn c1 c2 c3 cP dc nm ct),(D,W.listOf q.toArray nx),(l,W.listOf xl nl),(c3,o3),(c2,o2),(c1,o1),(100,tabObj ps),(cP,ocP)]→Q .none { heap:=h',gens:=s.gens,drawn:=s.drawn,toks:=tk',os:=s.os }) →
    wpAny (model prog w) ⟨none,dp,some (env::outer),gd,un⟩ (call (.ref f) [.int x t,.int lo u,.int hi v]) Q E s
theorem inOpen {n:Nat} {lo hi x:Int} {R:List Value→List Value→Prop} (h:(pick nX (InB n lo hi x R)).dp+n+1 < 500→(pick nX (InB n lo hi x R)).un+10*(n+1) < 5000→(pick nX (InB n lo hi x R)).env.frame=some (pick nX (InB n lo hi x R)).L→(pick nX (InB n lo hi x R)).env.scope.kind=.function→Below (pick nX (InB n lo hi x R)).A₀ (pick nX (InB n lo hi x R)).base (pick nX (InB n lo hi x R)).outer (pick nX (InB n lo hi x R)).g→(hd.heap_1 (pick nX (InB n lo hi x R)).w.params).In (pick nX (InB n lo hi x R)).g→Top (pick nX (InB n lo hi x R)).p (pick nX (InB n lo hi x R)).loose (pick nX (InB n lo hi x R)).mean (pick nX (InB n lo hi x R)).mg (pick nX (InB n lo hi x R)).mb (pick nX (InB n lo hi x R)).g →
    (pick nX (InB n lo hi x R)).ocP.data=Data.fields (pick nX (InB n lo hi x R)).vs→(pick nX (InB n lo hi x R)).vs[1]?=some (Value.str (ofString "_int2digits.<locals>.inner") (pick nX (InB n lo hi x R)).tq) →
    (pick nX (InB n lo hi x R)).o1.data=Data.cell (some (Value.int 10 (pick nX (InB n lo hi x R)).k))→(pick nX (InB n lo hi x R)).o2.data=Data.cell (some (Value.ref (pick nX (InB n lo hi x R)).D))→(pick nX (InB n lo hi x R)).o3.data=Data.cell (some (Value.ref (pick nX (InB n lo hi x R)).f)) →
    ((pick nX (InB n lo hi x R)).D < (pick nX (InB n lo hi x R)).f∧(pick nX (InB n lo hi x R)).l < (pick nX (InB n lo hi x R)).f∧(pick nX (InB n lo hi x R)).c3 < (pick nX (InB n lo hi x R)).f∧(pick nX (InB n lo hi x R)).c2 < (pick nX (InB n lo hi x R)).f∧(pick nX (InB n lo hi x R)).c1 < (pick nX (InB n lo hi x R)).f∧100 < (pick nX (InB n lo hi x R)).f∧(pick nX (InB n lo hi x R)).cP < (pick nX (InB n lo hi x R)).f)→((pick nX (InB n lo hi x R)).l < (pick nX (InB n lo hi x R)).D∧(pick nX (InB n lo hi x R)).c3 < (pick nX (InB n lo hi x R)).D∧(pick nX (InB n lo hi x R)).c2 < (pick nX (InB n lo hi x R)).D∧(pick nX (InB n lo hi x R)).c1 < (pick nX (InB n lo hi x R)).D∧100 < (pick nX (InB n lo hi x R)).D)→Fct (@Ne Nat (pick nX (InB n lo hi x R)).cP (pick nX (InB n lo hi x R)).D) →
    hi≤((pick nX (InB n lo hi x R)).xs.size:Int)→Fr (pick nX (InB n lo hi x R)).g (pick nX (InB n lo hi x R)).L (pick nX (InB n lo hi x R)).s.heap (pick nX (InB n lo hi x R)).m →
    News (pick nX (InB n lo hi x R)).g (pick nX (InB n lo hi x R)).L (pick nX (InB n lo hi x R)).s.heap [((pick nX (InB n lo hi x R)).f,inFn (pick nX (InB n lo hi x R)).c1 (pick nX (InB n lo hi x R)).c2 (pick nX (InB n lo hi x R)).c3 (pick nX (InB n lo hi x R)).cP (pick nX (InB n lo hi x R)).dc (pick nX (InB n lo hi x R)).nm (pick nX (InB n lo hi x R)).ct),((pick nX (InB n lo hi x R)).D,W.listOf (pick nX (InB n lo hi x R)).xs (pick nX (InB n lo hi x R)).nx),((pick nX (InB n lo hi x R)).l,W.listOf (pick nX (InB n lo hi x R)).xl (pick nX (InB n lo hi x R)).nl),((pick nX (InB n lo hi x R)).c3,(pick nX (InB n lo hi x R)).o3),((pick nX (InB n lo hi x R)).c2,(pick nX (InB n lo hi x R)).o2),((pick nX (InB n lo hi x R)).c1,(pick nX (InB n lo hi x R)).o1),(100,tabObj (pick nX (InB n lo hi x R)).ps),((pick nX (InB n lo hi x R)).cP,(pick nX (InB n lo hi x R)).ocP)] →
    (∀ h' tk' q,R (pick nX (InB n lo hi x R)).xs.toList q→Fr (pick nX (InB n lo hi x R)).g (pick nX (InB n lo hi x R)).L h' (pick nX (InB n lo hi x R)).m→News (pick nX (InB n lo hi x R)).g (pick nX (InB n lo hi x R)).L h' [((pick nX (InB n lo hi x R)).f,inFn (pick nX (InB n lo hi x R)).c1 (pick nX (InB n lo hi x R)).c2 (pick nX (InB n lo hi x R)).c3 (pick nX (InB n lo hi x R)).cP (pick nX (InB n lo hi x R)).dc (pick nX (InB n lo hi x R)).nm (pick nX (InB n lo hi x R)).ct),((pick nX (InB n lo hi x R)).D,W.listOf q.toArray (pick nX (InB n lo hi x R)).nx),((pick nX (InB n lo hi x R)).l,W.listOf (pick nX (InB n lo hi x R)).xl (pick nX (InB n lo hi x R)).nl),((pick nX (InB n lo hi x R)).c3,(pick nX (InB n lo hi x R)).o3),((pick nX (InB n lo hi x R)).c2,(pick nX (InB n lo hi x R)).o2),((pick nX (InB n lo hi x R)).c1,(pick nX (InB n lo hi x R)).o1),(100,tabObj (pick nX (InB n lo hi x R)).ps),((pick nX (InB n lo hi x R)).cP,(pick nX (InB n lo hi x R)).ocP)]→(pick nX (InB n lo hi x R)).Q .none { heap:=h',gens:=(pick nX (InB n lo hi x R)).s.gens,drawn:=(pick nX (InB n lo hi x R)).s.drawn,toks:=tk',os:=(pick nX (InB n lo hi x R)).s.os }) →
    wpAny (model (pick nX (InB n lo hi x R)).prog (pick nX (InB n lo hi x R)).w) ⟨none,(pick nX (InB n lo hi x R)).dp,some ((pick nX (InB n lo hi x R)).env::(pick nX (InB n lo hi x R)).outer),(pick nX (InB n lo hi x R)).gd,(pick nX (InB n lo hi x R)).un⟩ (call (.ref (pick nX (InB n lo hi x R)).f) [.int x (pick nX (InB n lo hi x R)).t,.int lo (pick nX (InB n lo hi x R)).u,.int hi (pick nX (InB n lo hi x R)).v]) (pick nX (InB n lo hi x R)).Q (pick nX (InB n lo hi x R)).E (pick nX (InB n lo hi x R)).s):InQ n lo hi x R:=by
  have h2:∀ c,InB n lo hi x R c:=pickI (n:=nX) h
  intros prog w p loose mean mg mb env outer A₀ base g L m s Q E dp gd un f l D c1 c2 c3 cP o1 o2 o3 ocP xs xl nx nl dc nm ct ps vs tq t u v k
  exact h2 ⟨prog,w,p,loose,mean,mg,mb,env,outer,A₀,base,g,L,m,s,Q,E,dp,gd,un,f,l,D,c1,c2,c3,cP,o1,o2,o3,ocP,xs,xl,nx,nl,dc,nm,ct,ps,vs,tq,t,u,v,k⟩
theorem setL_set : ∀ (l : List Value) (i : Nat) (v : Value), i < l.length → ki_setL l i v = some (l.set i v)
  | [],_,_,h=>absurd h (by simp)
  | _::_,0,_,_=>rfl
  | x::r,k+1,v,h=>by simp [ki_setL,setL_set r k v (by simpa using h)]
noncomputable def R2 (i:Nat) (x:Int) (xs q:List Value):Prop:=∃ t1 t2,q=(xs.set i (.int (Builtin.bitXor x (Int.fdiv x (2 ^ 10)*2 ^ 10)) t1)).set (i+1) (.int (Int.fdiv x (2 ^ 10)) t2)
noncomputable def R1 (i:Nat) (x:Int) (xs q:List Value):Prop:=∃ t,q=xs.set i (.int x t)
example:True:=by
  k_with "ite"=>((k_extra "gF";(k_here;first | with_reducible refine ite_tt ?_ | with_reducible refine ite_ff ?_ | refine ite_pos (Fct.out (by with_reducible assumption)) ?_ | refine ite_neg (ne_true_of (Fct.out (by with_reducible assumption))) ?_ | refine ite_neg (Fct.out (by with_reducible assumption)) ?_ | ((refine iteF ?_ ?_)<;>intro _))))
  k_with "setItem ref int"=>((k_extra "gF";(k_here;k_dflt (refine' ki_set ?kwF ?kwN ?kwa ?kwb ?kwe ?kwU ?_;(case kwF=>k_asm);(case kwN=>k_asm);(case kwa=>with_reducible assumption);(case kwb=>with_reducible assumption);(case kwe=>with_reducible assumption);(case kwU=>k_upd));(intro zq99gh' zq99gF' zq99gN';(try (replace zq99gN':=zq99gN';dsimp only [List.nil_append,List.cons_append] at zq99gN'))))))
  trivial
theorem inLeaf:∀ (i:Nat) (x:Int),i < 3→InQ 1 (i:Int) ((i:Int)+1) x (R1 i x):=by
  intro i x
  intros hi3
  k_extra "r14"
  intros hdp hun hf hke B X T e1 e2 d1 d2 d3 lt lD lE hx F N h
  have C:=codeHd_of_K (c:=104) (P:=100) X (by kernel_rfl)
  have hb:H.fb inSt=H.fb inSt:=rfl
  conv at hb=>rhs;whnf
  have hs:H.fs inSt=H.fs inSt:=rfl
  conv at hs=>rhs;whnf
  have ha:H.fa inSt=H.fa inSt:=rfl
  conv at ha=>rhs;whnf
  unfold inFn at N h
  (replace N:=N;replace h:=h;rw [hb,hs,ha] at N h)
  clear hb hs ha
  have hc9:Fct ((((i:Int)+1) == ((i:Int)+1))=true):=⟨beq_self_eq_true _⟩
  have hi0:(0:Int)≤(i:Int):=Int.natCast_nonneg _
  have hi9:(i:Int) < 2 ^ 63:=by omega
  have hq : ki_setL xs.toList (i:Int).toNat (.int x t)=some (xs.toList.set i (.int x t)):=setL_set _ _ _ (by simp;omega)
  walk_at "call ref"
  k_steps
  (rename Fr g _ _ _=>F9);(rename News g _ _ _=>N9)
  exact h _ _ _ ⟨_,rfl⟩ F9 N9
theorem inLeaf0 (x:Int):InQ 1 0 1 x (R1 0 x):=inLeaf 0 x (by decide)
theorem inLeaf1 (x:Int):InQ 1 1 2 x (R1 1 x):=inLeaf 1 x (by decide)
theorem inLeaf2 (x:Int):InQ 1 2 3 x (R1 2 x):=inLeaf 2 x (by decide)
theorem inCast {prog : Program} {w : World} {A : Around} {Q E : Value → Shared → Prop} {s : Shared} {f : Value} {x : Value} {lo hi : Int} {u v : Tok} (lo' hi' : Int) (e1 : lo = lo') (e2 : hi = hi')
    (h : wpAny (model prog w) A (call f [x,.int lo' u,.int hi' v]) Q E s) : wpAny (model prog w) A (call f [x,.int lo u,.int hi v]) Q E s:=by subst e1 e2;exact h
example:True:=by
  k_with "call ref"=>((k_extra "gF";(k_here;(with_reducible show wpAny _ _ (call (Value.ref _) [Value.int _ _,Value.int _ _,Value.int _ _]) _ _ _);(rename Fr _ _ _ _=>zq99hF9);(rename News _ _ _ _=>zq99hN9);k_dflt (first | ((refine' inCast 0 1 ?kwee1 ?kwee2 ?_;(case kwee1=>decide);(case kwee2=>decide));refine' inLeaf0 _ ?kwdp ?kwun ?kwhf ?kwhke ?kwB ?kwX ?kwT ?kwe1 ?kwe2 ?kwd1 ?kwd2 ?kwd3 ?kwlt ?kwlD ?kwlE ?kwhx zq99hF9 zq99hN9 ?_) | ((refine' inCast 1 2 ?kwee1 ?kwee2 ?_;(case kwee1=>decide);(case kwee2=>decide));refine' inLeaf1 _ ?kwdp ?kwun ?kwhf ?kwhke ?kwB ?kwX ?kwT ?kwe1 ?kwe2 ?kwd1 ?kwd2 ?kwd3 ?kwlt ?kwlD ?kwlE ?kwhx zq99hF9 zq99hN9 ?_) | ((refine' inCast 2 3 ?kwee1 ?kwee2 ?_;(case kwee1=>decide);(case kwee2=>decide));refine' inLeaf2 _ ?kwdp ?kwun ?kwhf ?kwhke ?kwB ?kwX ?kwT ?kwe1 ?kwe2 ?kwd1 ?kwd2 ?kwd3 ?kwlt ?kwlD ?kwlE ?kwhx zq99hF9 zq99hN9 ?_) | fail "in");k_dflt (walk_at "in_fill"))))
  k_with "in_fill"=>(((case kwdp=>((k_extra "s1");(try dsimp only);omega));(case kwun=>((k_extra "s6");(try dsimp only);omega));(case kwhf=>first | exact rfl | with_reducible assumption);(case kwhke=>first | exact rfl | with_reducible assumption);(case kwB=>k_asm);(case kwX=>k_asm);(case kwT=>k_asm);(case kwe1=>with_reducible assumption);(case kwe2=>with_reducible assumption);(case kwd1=>with_reducible assumption);(case kwd2=>with_reducible assumption);(case kwd3=>with_reducible assumption);(case kwlt=>with_reducible assumption);(case kwlD=>with_reducible assumption);(case kwlE=>with_reducible assumption);(case kwhx=>((rename Fct (_≤_)=>zq99ihS9);have zq99ihS8:=zq99ihS9.out;simp;omega));(rename Fr _ _ _ _=>zq99iF8);(rename News _ _ _ _=>zq99iN8);clear zq99iF8 zq99iN8;intro zq99ih' zq99itk' zq99iq;intro zq99ihR zq99iF' zq99iN';(repeat (refine exE zq99ihR ?_;clear zq99ihR;intro zq99it9 zq99ihR));subst zq99ihR;(try dsimp only)))
  trivial
theorem inNode0:∀ (x:Int),0≤x→x < 1073741824→InQ 2 0 2 x (R2 0 x):=by
  intro x
  intros hx0 hx1
  k_extra "r14"
  intros hdp hun hf hke B X T e1 e2 d1 d2 d3 lt lD lE hx F N h
  have C:=codeHd_of_K (c:=104) (P:=100) X (by kernel_rfl)
  have hb:H.fb inSt=H.fb inSt:=rfl
  conv at hb=>rhs;whnf
  have hs:H.fs inSt=H.fs inSt:=rfl
  conv at hs=>rhs;whnf
  have ha:H.fa inSt=H.fa inSt:=rfl
  conv at ha=>rhs;whnf
  unfold inFn at N h
  (replace N:=N;replace h:=h;rw [hb,hs,ha] at N h)
  clear hb hs ha
  have hS:Fct (2≤(xs.size:Int)):=⟨hx⟩
  clear hx
  have hc9:Fct (((0:Int)+1 == 2)=false):=⟨by decide⟩
  walk_at "call ref"
  k_steps
  (rename Fr g _ _ _=>F9);(rename News g _ _ _=>N9)
  exact h _ _ _ ⟨_,_,rfl⟩ F9 N9
theorem inNode1:∀ (x:Int),0≤x→x < 1073741824→InQ 2 1 3 x (R2 1 x):=by
  intro x
  intros hx0 hx1
  k_extra "r14"
  intros hdp hun hf hke B X T e1 e2 d1 d2 d3 lt lD lE hx F N h
  have C:=codeHd_of_K (c:=104) (P:=100) X (by kernel_rfl)
  have hb:H.fb inSt=H.fb inSt:=rfl
  conv at hb=>rhs;whnf
  have hs:H.fs inSt=H.fs inSt:=rfl
  conv at hs=>rhs;whnf
  have ha:H.fa inSt=H.fa inSt:=rfl
  conv at ha=>rhs;whnf
  unfold inFn at N h
  (replace N:=N;replace h:=h;rw [hb,hs,ha] at N h)
  clear hb hs ha
  have hS:Fct (3≤(xs.size:Int)):=⟨hx⟩
  clear hx
  have hc9:Fct (((1:Int)+1 == 3)=false):=⟨by decide⟩
  walk_at "call ref"
  k_steps
  (rename Fr g _ _ _=>F9);(rename News g _ _ _=>N9)
  exact h _ _ _ ⟨_,_,rfl⟩ F9 N9
noncomputable def R3 (x:Int) (xs q:List Value):Prop:=∃ q1,R1 0 (Builtin.bitXor x (Int.fdiv x (2 ^ 10)*2 ^ 10)) xs q1∧R2 1 (Int.fdiv x (2 ^ 10)) q1 q
theorem fdivR {x:Int} (h0 : 0≤x) (h1 : x < 1073741824) : 0≤Int.fdiv x (2 ^ 10)∧Int.fdiv x (2 ^ 10) < 1073741824:=by
  rw [Int.fdiv_eq_ediv_of_nonneg _ (by decide)];omega
example:True:=by
  k_with "call ref"=>((k_extra "gF";(k_here;(with_reducible show wpAny _ _ (call (Value.ref _) [Value.int _ _,Value.int _ _,Value.int _ _]) _ _ _);(rename Fr _ _ _ _=>zq99jF9);(rename News _ _ _ _=>zq99jN9);k_dflt (first | ((refine' inCast 1 3 ?kwee1 ?kwee2 ?_;(case kwee1=>decide);(case kwee2=>decide));refine' inNode1 _ ?kwhu0 ?kwhu1 ?kwdp ?kwun ?kwhf ?kwhke ?kwB ?kwX ?kwT ?kwe1 ?kwe2 ?kwd1 ?kwd2 ?kwd3 ?kwlt ?kwlD ?kwlE ?kwhx zq99jF9 zq99jN9 ?_;(case kwhu0=>((rename (0≤Int.fdiv _ _)=>zq99jhq0);exact zq99jhq0));(case kwhu1=>((rename (Int.fdiv _ _ < _)=>zq99jhq0);exact zq99jhq0))) | fail "in");k_dflt (walk_at "in_fill"))))
  trivial
theorem inNode3:∀ (x:Int),0≤x→x < 1073741824→InQ 3 0 3 x (R3 x):=by
  intro x
  intros hx0 hx1
  k_extra "r14"
  intros hdp hun hf hke B X T e1 e2 d1 d2 d3 lt lD lE hx F N h
  have C:=codeHd_of_K (c:=104) (P:=100) X (by kernel_rfl)
  have hb:H.fb inSt=H.fb inSt:=rfl
  conv at hb=>rhs;whnf
  have hs:H.fs inSt=H.fs inSt:=rfl
  conv at hs=>rhs;whnf
  have ha:H.fa inSt=H.fa inSt:=rfl
  conv at ha=>rhs;whnf
  unfold inFn at N h
  (replace N:=N;replace h:=h;rw [hb,hs,ha] at N h)
  clear hb hs ha
  have hS:Fct (3≤(xs.size:Int)):=⟨hx⟩
  clear hx
  have hu0 : 0≤Int.fdiv x (2 ^ 10):=(fdivR hx0 hx1).1
  have hu1:Int.fdiv x (2 ^ 10) < 1073741824:=(fdivR hx0 hx1).2
  have hc9:Fct (((0:Int)+1 == 3)=false):=⟨by decide⟩
  walk_at "call ref"
  k_steps
  (rename Fr g _ _ _=>F9);(rename News g _ _ _=>N9)
  exact h _ _ _ ⟨_,⟨_,rfl⟩,_,_,rfl⟩ F9 N9
noncomputable def dnSt:Stmt:=((H.fb (H.st 16))[0]?).getD H.nost
noncomputable def dnFn (c1 c2 c3 cP:Addr) (dc nm ct:Value):Obj:=fnMade (ofString "inner") (ofString "_digits2int.<locals>.inner") (H.fa dnSt) (H.fb dnSt) (H.fs dnSt) [(ofString "n",c2),(ofString "inner",c3),(ofString "digits",c1)] dc nm cP ct
set_option genInjectivity false in
structure DnX where
  prog:Program
  w:World
  p:Program
  loose:List Str
  mean:ExcName→Option Value
  mg:Str→Option Value
  mb:Str→Option Value
  env:Env
  outer:List Env
  A₀:Around
  base:Heap
  g:Heap
  L:Addr
  m:Str→Option Value
  s:Shared
  Q:Value→Shared→Prop
  E:Value→Shared→Prop
  dp:Nat
  gd:Option (List Code)
  un:Nat
  f:Addr
  D:Addr
  c1:Addr
  c2:Addr
  c3:Addr
  cP:Addr
  o1:Obj
  o2:Obj
  o3:Obj
  ocP:Obj
  xs:List Value
  nx:Nat
  dc:Value
  nm:Value
  ct:Value
  ps:Array Value
  vs:Array Value
  tq:Tok
  u:Tok
  v:Tok
  k:Tok
theorem nD:Nonempty DnX:=⟨⟨default,Classical.choice neW,default,default,default,default,default,default,default,{},default,default,default,default,{},default,default,default,default,default,default,default,default,default,default,default,default,default,default,default,default,default,default,default,default,default,default,default,default,default,default⟩⟩
noncomputable def DnB (n:Nat) (lo hi:Int) (bs:List Int) (V:Int) (c:DnX):Prop :=
    c.dp+n+1 < 500→c.un+10*(n+1) < 5000→c.env.frame=some c.L→c.env.scope.kind=.function→Below c.A₀ c.base c.outer c.g→(hd.heap_1 c.w.params).In c.g→Top c.p c.loose c.mean c.mg c.mb c.g →
    c.ocP.data=Data.fields c.vs→c.vs[1]?=some (Value.str (ofString "_digits2int.<locals>.inner") c.tq) →
    c.o1.data=Data.cell (some (Value.ref c.f))→c.o2.data=Data.cell (some (Value.int 10 c.k))→c.o3.data=Data.cell (some (Value.ref c.D)) →
    IntsAre c.xs bs→Fr c.g c.L c.s.heap c.m →
    News c.g c.L c.s.heap [(c.f,dnFn c.c1 c.c2 c.c3 c.cP c.dc c.nm c.ct),(c.c3,c.o1),(c.c2,c.o2),(c.c1,c.o3),(c.D,W.listOf c.xs.toArray c.nx),(107,tabObj c.ps),(c.cP,c.ocP)] →
    (∀ h' tk' t',Fr c.g c.L h' c.m→News c.g c.L h' [(c.f,dnFn c.c1 c.c2 c.c3 c.cP c.dc c.nm c.ct),(c.c3,c.o1),(c.c2,c.o2),(c.c1,c.o3),(c.D,W.listOf c.xs.toArray c.nx),(107,tabObj c.ps),(c.cP,c.ocP)]→c.Q (.int V t') { heap:=h',gens:=c.s.gens,drawn:=c.s.drawn,toks:=tk',os:=c.s.os }) →
    wpAny (model c.prog c.w) ⟨none,c.dp,some (c.env::c.outer),c.gd,c.un⟩ (call (.ref c.f) [.int lo c.u,.int hi c.v]) c.Q c.E c.s
noncomputable def DnQ (n:Nat) (lo hi:Int) (bs:List Int) (V:Int):Prop:=∀ {prog:Program} {w:World} {p:Program} {loose:List Str} {mean:ExcName→Option Value} {mg:Str→Option Value} {mb:Str→Option Value} {env:Env} {outer:List Env} {A₀:Around} {base:Heap} {g:Heap} {L:Addr} {m:Str→Option Value} {s:Shared} {Q:Value→Shared→Prop} {E:Value→Shared→Prop} {dp:Nat} {gd:Option (List Code)} {un:Nat} {f:Addr} {D:Addr} {c1:Addr} {c2:Addr} {c3:Addr} {cP:Addr} {o1:Obj} {o2:Obj} {o3:Obj} {ocP:Obj} {xs:List Value} {nx:Nat} {dc:Value} {nm:Value} {ct:Value} {ps:Array Value} {vs:Array Value} {tq:Tok} {u:Tok} {v:Tok} {k:Tok},dp+n+1 < 500→un+10*(n+1) < 5000→env.frame=some L→env.scope.kind=.function→Below A₀ base outer g→(hd.heap_1 w.params).In g→Top p loose mean mg mb g →
    ocP.data=Data.fields vs→vs[1]?=some (Value.str (ofString "_digits2int.<locals>.inner") tq) →
    o1.data=Data.cell (some (Value.ref f))→o2.data=Data.cell (some (Value.int 10 k))→o3.data=Data.cell (some (Value.ref D)) →
    IntsAre xs bs→Fr g L s.heap m →
    News g L s.heap [(f,dnFn c1 c2 c3 cP dc nm ct),(c3,o1),(c2,o2),(c1,o3),(D,W.listOf xs.toArray nx),(107,tabObj ps),(cP,ocP)] →
    (∀ h' tk' t',Fr g L h' m→News g L h' [(f,dnFn c1 c2 c3 cP dc nm ct),(c3,o1),(c2,o2),(c1,o3),(D,W.listOf xs.toArray nx),(107,tabObj ps),(cP,ocP)]→Q (.int V t') { heap:=h',gens:=s.gens,drawn:=s.drawn,toks:=tk',os:=s.os }) →
    wpAny (model prog w) ⟨none,dp,some (env::outer),gd,un⟩ (call (.ref f) [.int lo u,.int hi v]) Q E s
theorem dnOpen {n:Nat} {lo hi:Int} {bs:List Int} {V:Int} (h:(pick nD (DnB n lo hi bs V)).dp+n+1 < 500→(pick nD (DnB n lo hi bs V)).un+10*(n+1) < 5000→(pick nD (DnB n lo hi bs V)).env.frame=some (pick nD (DnB n lo hi bs V)).L→(pick nD (DnB n lo hi bs V)).env.scope.kind=.function→Below (pick nD (DnB n lo hi bs V)).A₀ (pick nD (DnB n lo hi bs V)).base (pick nD (DnB n lo hi bs V)).outer (pick nD (DnB n lo hi bs V)).g→(hd.heap_1 (pick nD (DnB n lo hi bs V)).w.params).In (pick nD (DnB n lo hi bs V)).g→Top (pick nD (DnB n lo hi bs V)).p (pick nD (DnB n lo hi bs V)).loose (pick nD (DnB n lo hi bs V)).mean (pick nD (DnB n lo hi bs V)).mg (pick nD (DnB n lo hi bs V)).mb (pick nD (DnB n lo hi bs V)).g →
    (pick nD (DnB n lo hi bs V)).ocP.data=Data.fields (pick nD (DnB n lo hi bs V)).vs→(pick nD (DnB n lo hi bs V)).vs[1]?=some (Value.str (ofString "_digits2int.<locals>.inner") (pick nD (DnB n lo hi bs V)).tq) →
    (pick nD (DnB n lo hi bs V)).o1.data=Data.cell (some (Value.ref (pick nD (DnB n lo hi bs V)).f))→(pick nD (DnB n lo hi bs V)).o2.data=Data.cell (some (Value.int 10 (pick nD (DnB n lo hi bs V)).k))→(pick nD (DnB n lo hi bs V)).o3.data=Data.cell (some (Value.ref (pick nD (DnB n lo hi bs V)).D)) →
    IntsAre (pick nD (DnB n lo hi bs V)).xs bs→Fr (pick nD (DnB n lo hi bs V)).g (pick nD (DnB n lo hi bs V)).L (pick nD (DnB n lo hi bs V)).s.heap (pick nD (DnB n lo hi bs V)).m →
    News (pick nD (DnB n lo hi bs V)).g (pick nD (DnB n lo hi bs V)).L (pick nD (DnB n lo hi bs V)).s.heap [((pick nD (DnB n lo hi bs V)).f,dnFn (pick nD (DnB n lo hi bs V)).c1 (pick nD (DnB n lo hi bs V)).c2 (pick nD (DnB n lo hi bs V)).c3 (pick nD (DnB n lo hi bs V)).cP (pick nD (DnB n lo hi bs V)).dc (pick nD (DnB n lo hi bs V)).nm (pick nD (DnB n lo hi bs V)).ct),((pick nD (DnB n lo hi bs V)).c3,(pick nD (DnB n lo hi bs V)).o1),((pick nD (DnB n lo hi bs V)).c2,(pick nD (DnB n lo hi bs V)).o2),((pick nD (DnB n lo hi bs V)).c1,(pick nD (DnB n lo hi bs V)).o3),((pick nD (DnB n lo hi bs V)).D,W.listOf (pick nD (DnB n lo hi bs V)).xs.toArray (pick nD (DnB n lo hi bs V)).nx),(107,tabObj (pick nD (DnB n lo hi bs V)).ps),((pick nD (DnB n lo hi bs V)).cP,(pick nD (DnB n lo hi bs V)).ocP)] →
    (∀ h' tk' t',Fr (pick nD (DnB n lo hi bs V)).g (pick nD (DnB n lo hi bs V)).L h' (pick nD (DnB n lo hi bs V)).m→News (pick nD (DnB n lo hi bs V)).g (pick nD (DnB n lo hi bs V)).L h' [((pick nD (DnB n lo hi bs V)).f,dnFn (pick nD (DnB n lo hi bs V)).c1 (pick nD (DnB n lo hi bs V)).c2 (pick nD (DnB n lo hi bs V)).c3 (pick nD (DnB n lo hi bs V)).cP (pick nD (DnB n lo hi bs V)).dc (pick nD (DnB n lo hi bs V)).nm (pick nD (DnB n lo hi bs V)).ct),((pick nD (DnB n lo hi bs V)).c3,(pick nD (DnB n lo hi bs V)).o1),((pick nD (DnB n lo hi bs V)).c2,(pick nD (DnB n lo hi bs V)).o2),((pick nD (DnB n lo hi bs V)).c1,(pick nD (DnB n lo hi bs V)).o3),((pick nD (DnB n lo hi bs V)).D,W.listOf (pick nD (DnB n lo hi bs V)).xs.toArray (pick nD (DnB n lo hi bs V)).nx),(107,tabObj (pick nD (DnB n lo hi bs V)).ps),((pick nD (DnB n lo hi bs V)).cP,(pick nD (DnB n lo hi bs V)).ocP)]→(pick nD (DnB n lo hi bs V)).Q (.int V t') { heap:=h',gens:=(pick nD (DnB n lo hi bs V)).s.gens,drawn:=(pick nD (DnB n lo hi bs V)).s.drawn,toks:=tk',os:=(pick nD (DnB n lo hi bs V)).s.os }) →
    wpAny (model (pick nD (DnB n lo hi bs V)).prog (pick nD (DnB n lo hi bs V)).w) ⟨none,(pick nD (DnB n lo hi bs V)).dp,some ((pick nD (DnB n lo hi bs V)).env::(pick nD (DnB n lo hi bs V)).outer),(pick nD (DnB n lo hi bs V)).gd,(pick nD (DnB n lo hi bs V)).un⟩ (call (.ref (pick nD (DnB n lo hi bs V)).f) [.int lo (pick nD (DnB n lo hi bs V)).u,.int hi (pick nD (DnB n lo hi bs V)).v]) (pick nD (DnB n lo hi bs V)).Q (pick nD (DnB n lo hi bs V)).E (pick nD (DnB n lo hi bs V)).s):DnQ n lo hi bs V:=by
  have h2:∀ c,DnB n lo hi bs V c:=pickI (n:=nD) h
  intros prog w p loose mean mg mb env outer A₀ base g L m s Q E dp gd un f D c1 c2 c3 cP o1 o2 o3 ocP xs nx dc nm ct ps vs tq u v k
  exact h2 ⟨prog,w,p,loose,mean,mg,mb,env,outer,A₀,base,g,L,m,s,Q,E,dp,gd,un,f,D,c1,c2,c3,cP,o1,o2,o3,ocP,xs,nx,dc,nm,ct,ps,vs,tq,u,v,k⟩
example:True:=by
  k_with "call ref"=>((k_extra "gF";(k_here;kn_here;k_dflt (refine wpAny_call ?_;(refine' code_nest ?kwk1 ?kwk2 ?kwk3 ?kwk4 ?kwk5 ?kwkA ?kwkF ?kwkK ?kwk6 ?kwk7 ?kwk8 ?kwk9 ?kwkB ?_ ?kwc2 ?kwc3 ?kwc4 ?kwc5;(case kwkA=>exact rfl);(case kwkF=>first | exact rfl | assumption);(case kwkK=>first | exact rfl | assumption);(case kwk1=>k_asm);(case kwk2=>k_asm);(case kwk3=>k_asm);(case kwk4=>k_asm);(case kwk5=>k_asm);(case kwk6=>k_mem);(case kwk7=>exact codeRec_news (by k_asm) (by k_mem) (by assumption) (by assumption));(case kwk8=>(show _ < 1000;(k_extra "s1");(try dsimp only);omega));(case kwk9=>exact BindsTo.of_eq rfl);(case kwc5=>decide);(case kwkB=>exact locs rfl);(case kwc2=>exact rfl);(case kwc3=>exact rfl);(case kwc4=>exact rfl);k_whole;intro zqasxg' zqasxL' zqasxh' zqasxFG' zqasxF' zqasxN' zqasxB' zqasxX' zqasxT';(try dsimp only);(try k_lift zqasxB'))))))
  k_with "subscriptTail Name Name ref int"=>((k_extra "gF";((with_reducible show wpAny _ _ (subscriptTail _ _ (Value.ref _) (Value.int _ _)) _ _ _);(with_unfolding_all refine' item_list_ints ?kwk1 ?kwk2 ?kwk3 ?kwk4 ?kwk5 ?_;(case kwk1=>is_list);(case kwk2=>with_reducible assumption);(case kwk3=>with_reducible assumption);(case kwk4=>with_reducible assumption);(case kwk5=>with_reducible assumption);k_whole);intro _)))
  k_with "binaryOp LShift int int"=>((k_extra "gF";(k_here;(with_unfolding_all refine lshift_int ?kwkbn ?kwkbs ?_);(case kwkbn=>decide);(case kwkbs=>(rename (_+10≤2 ^ 27)=>zqaszhs9;with_unfolding_all exact zqaszhs9)))))
  k_with "ite"=>((k_extra "gF";(k_here;first | with_reducible refine ite_tt ?_ | with_reducible refine ite_ff ?_ | refine ite_pos (Fct.out (by with_reducible assumption)) ?_ | refine ite_neg (ne_true_of (Fct.out (by with_reducible assumption))) ?_ | refine ite_neg (Fct.out (by with_reducible assumption)) ?_ | ((refine iteF ?_ ?_)<;>intro _))))
  trivial
theorem dnLeaf:∀ (i:Nat) (bs:List Int),(i:Int) < (bs.length:Int)→(i:Int) < 2 ^ 63→DnQ 1 (i:Int) ((i:Int)+1) bs (bs.getD i 0):=by
  intro i bs
  intros hi3 hi9
  k_extra "r15"
  intros hdp hun hf hke B X T e1 e2 d1 d2 d3 hI F N h
  have C:=codeHd_of_K (c:=111) (P:=107) X (by kernel_rfl)
  have hb:H.fb dnSt=H.fb dnSt:=rfl
  conv at hb=>rhs;whnf
  have hs:H.fs dnSt=H.fs dnSt:=rfl
  conv at hs=>rhs;whnf
  have ha:H.fa dnSt=H.fa dnSt:=rfl
  conv at ha=>rhs;whnf
  unfold dnFn at N h
  (replace N:=N;replace h:=h;rw [hb,hs,ha] at N h)
  clear hb hs ha
  have hc9:Fct ((((i:Int)+1) == ((i:Int)+1))=true):=⟨beq_self_eq_true _⟩
  have hi0:(0:Int)≤(i:Int):=Int.natCast_nonneg _
  walk_at "call ref"
  k_steps
  (rename Fr g _ _ _=>F9);(rename News g _ _ _=>N9)
  exact h _ _ _ F9 N9
theorem dnCast {prog : Program} {w : World} {A : Around} {Q E : Value → Shared → Prop} {s : Shared} {f : Value} {lo hi : Int} {u v : Tok} (lo' hi' : Int) (e1 : lo = lo') (e2 : hi = hi')
    (h : wpAny (model prog w) A (call f [.int lo' u,.int hi' v]) Q E s) : wpAny (model prog w) A (call f [.int lo u,.int hi v]) Q E s:=by subst e1 e2;exact h
example:True:=by
  k_with "call ref"=>((k_extra "gF";(k_here;(with_reducible show wpAny _ _ (call (Value.ref _) [Value.int _ _,Value.int _ _]) _ _ _);(rename Fr _ _ _ _=>zqat1F9);(rename News _ _ _ _=>zqat1N9);(first | ((rename DnQ _ _ _ _ _=>zqat1H9);k_dflt ((refine' dnCast _ _ ?kwee1 ?kwee2 (zqat1H9 ?kwdp ?kwun ?kwhf ?kwhke ?kwB ?kwX ?kwT ?kwe1 ?kwe2 ?kwd1 ?kwd2 ?kwd3 ?kwhI zqat1F9 zqat1N9 ?_));(case kwee1=>decide);(case kwee2=>decide))) | ((rename DnQ _ _ _ _ _=>zqat1H8);clear zqat1H8;(rename DnQ _ _ _ _ _=>zqat1H9);k_dflt ((refine' dnCast _ _ ?kwee1 ?kwee2 (zqat1H9 ?kwdp ?kwun ?kwhf ?kwhke ?kwB ?kwX ?kwT ?kwe1 ?kwe2 ?kwd1 ?kwd2 ?kwd3 ?kwhI zqat1F9 zqat1N9 ?_));(case kwee1=>decide);(case kwee2=>decide))) | fail "in");k_dflt (walk_at "dn_fill"))))
  k_with "dn_fill"=>(((case kwdp=>((k_extra "s1");(try dsimp only);omega));(case kwun=>((k_extra "s6");(try dsimp only);omega));(case kwhf=>first | exact rfl | with_reducible assumption);(case kwhke=>first | exact rfl | with_reducible assumption);(case kwB=>k_asm);(case kwX=>k_asm);(case kwT=>k_asm);(case kwe1=>with_reducible assumption);(case kwe2=>assumption);(case kwd1=>with_reducible assumption);(case kwd2=>with_reducible assumption);(case kwd3=>with_reducible assumption);(case kwhI=>with_reducible assumption);(rename Fr _ _ _ _=>zqat2F8);(rename News _ _ _ _=>zqat2N8);clear zqat2F8 zqat2N8;intro zqat2h' zqat2tk' zqat2t' zqat2F' zqat2N';(try dsimp only)))
  trivial
noncomputable def DnNode (n:Nat) (lo mid hi:Int):Prop:=∀ (bs:List Int) (U W:Int),(Builtin.Int.intBits U:Int)+10≤2 ^ 27→DnQ n lo mid bs W→DnQ n mid hi bs U→DnQ (n+1) lo hi bs (U*2 ^ 10+W)
theorem dnNode0:∀ (bs:List Int) (U W:Int),(Builtin.Int.intBits U:Int)+10≤2 ^ 27→DnQ 1 0 1 bs W→DnQ 1 1 2 bs U→DnQ 2 0 2 bs (U*2 ^ 10+W):=by
  intro bs U W
  intros hs9 HW HU
  k_extra "r15"
  intros hdp hun hf hke B X T e1 e2 d1 d2 d3 hI F N h
  have C:=codeHd_of_K (c:=111) (P:=107) X (by kernel_rfl)
  have hb:H.fb dnSt=H.fb dnSt:=rfl
  conv at hb=>rhs;whnf
  have hs:H.fs dnSt=H.fs dnSt:=rfl
  conv at hs=>rhs;whnf
  have ha:H.fa dnSt=H.fa dnSt:=rfl
  conv at ha=>rhs;whnf
  unfold dnFn at N h
  (replace N:=N;replace h:=h;rw [hb,hs,ha] at N h)
  clear hb hs ha
  have hc9:Fct (((0:Int)+1 == 2)=false):=⟨by decide⟩
  walk_at "call ref"
  k_steps
  (rename Fr g _ _ _=>F9);(rename News g _ _ _=>N9)
  exact h _ _ _ F9 N9
theorem dnNode1:∀ (bs:List Int) (U W:Int),(Builtin.Int.intBits U:Int)+10≤2 ^ 27→DnQ 1 1 2 bs W→DnQ 1 2 3 bs U→DnQ 2 1 3 bs (U*2 ^ 10+W):=by
  intro bs U W
  intros hs9 HW HU
  k_extra "r15"
  intros hdp hun hf hke B X T e1 e2 d1 d2 d3 hI F N h
  have C:=codeHd_of_K (c:=111) (P:=107) X (by kernel_rfl)
  have hb:H.fb dnSt=H.fb dnSt:=rfl
  conv at hb=>rhs;whnf
  have hs:H.fs dnSt=H.fs dnSt:=rfl
  conv at hs=>rhs;whnf
  have ha:H.fa dnSt=H.fa dnSt:=rfl
  conv at ha=>rhs;whnf
  unfold dnFn at N h
  (replace N:=N;replace h:=h;rw [hb,hs,ha] at N h)
  clear hb hs ha
  have hc9:Fct (((1:Int)+1 == 3)=false):=⟨by decide⟩
  walk_at "call ref"
  k_steps
  (rename Fr g _ _ _=>F9);(rename News g _ _ _=>N9)
  exact h _ _ _ F9 N9
theorem dnNode3:∀ (bs:List Int) (U W:Int),(Builtin.Int.intBits U:Int)+10≤2 ^ 27→DnQ 1 0 1 bs W→DnQ 2 1 3 bs U→DnQ 3 0 3 bs (U*2 ^ 10+W):=by
  intro bs U W
  intros hs9 HW HU
  k_extra "r15"
  intros hdp hun hf hke B X T e1 e2 d1 d2 d3 hI F N h
  have C:=codeHd_of_K (c:=111) (P:=107) X (by kernel_rfl)
  have hb:H.fb dnSt=H.fb dnSt:=rfl
  conv at hb=>rhs;whnf
  have hs:H.fs dnSt=H.fs dnSt:=rfl
  conv at hs=>rhs;whnf
  have ha:H.fa dnSt=H.fa dnSt:=rfl
  conv at ha=>rhs;whnf
  unfold dnFn at N h
  (replace N:=N;replace h:=h;rw [hb,hs,ha] at N h)
  clear hb hs ha
  have hc9:Fct (((0:Int)+1 == 3)=false):=⟨by decide⟩
  walk_at "call ref"
  k_steps
  (rename Fr g _ _ _=>F9);(rename News g _ _ _=>N9)
  exact h _ _ _ F9 N9
section
local macro_rules | `(tactic| walk_at $s:str)=>do let k:=Lean.Syntax.mkStrLit ("cut "++s.getString);`(tactic| k_extra $k)
local macro_rules | `(tactic| k_steps)=>`(tactic| repeat' (k_extra "cut k_steps"))
example:True:=by
  k_with "cut execs cons Assign cons"=>(walk_at "execs cons")
  k_with "cut execs cons"=>((k_here;(with_reducible first | (refine consCutV (by assumption) ?_;intro zqkd0yQ9 zqkd0yh9) | (refine consCutN ?_;intro zqkd0yQ8 zqkd0yh8 zqkd0yQ9 zqkd0yh9))))
  k_with "cut x_out"=>(((with_reducible first | refine CutH.next (by assumption) ?_ | refine CutH.ret (by assumption) ?_ | refine CutH.brk (by assumption) ?_ | refine CutH.cont (by assumption) ?_ | refine CutV.go (by assumption) _ _ ?_ | refine CutH.go (by assumption) _ _ ?_);(try dsimp only)))
  k_with "cut k_steps"=>(k_extra "s5")
  trivial
example:True:=by
  k_with "oeqI"=>apply Lx.l161<;>assumption
  k_with "oleN"=>apply Lx.l95<;>assumption
  k_with "oltI"=>apply Lx.l242<;>assumption
  k_with "of"=>apply Lx.l482<;>assumption
  k_with "of"=>apply Lx.l67<;>assumption
  k_with "of"=>apply Lx.l203<;>assumption
  k_with "oleI"=>apply Lx.l352
  k_with "of"=>apply Lx.l294<;>assumption
  k_with "oleN"=>apply Lx.l135<;>assumption
  k_with "oand"=>apply Lx.l117<;>assumption
  k_with "oand"=>apply Lx.l518
  k_with "oand"=>apply Lx.l179<;>assumption
  k_with "of"=>apply Lx.l216<;>assumption
  k_with "oltI"=>apply Lx.l396<;>assumption
  k_with "oltN"=>apply Lx.l152<;>assumption
  k_with "oltI"=>apply Lx.l520<;>assumption
  k_with "oleI"=>apply Lx.l389<;>assumption
  k_with "oltN"=>apply Lx.l131<;>assumption
  k_with "oleN"=>apply Lx.l186<;>assumption
  k_with "oleN"=>apply Lx.l226<;>assumption
  k_with "oleN"=>apply Lx.l367<;>assumption
  k_with "of"=>apply Lx.l519<;>assumption
  k_with "oeqI"=>apply Lx.l159<;>assumption
  k_with "oeqI"=>apply Lx.l103<;>assumption
  k_with "oleI"=>apply Lx.l281<;>assumption
  k_with "oltN"=>apply Lx.l492<;>assumption
  k_with "oand"=>apply Lx.l252<;>assumption
  trivial
noncomputable def IntL (o:Obj) (ns:List Int):Prop:=∃ ys n,o={ cls:=.type "list",data:=.seq (List.toArray ys) n }∧IntsAre ys ns
theorem lenpos_of {ns:List Int} (h:Fct ((!decide (ns=[]))=true)) : 0 < ns.length:=by
  have:=h.out
  cases ns with
  | nil=>simp at this
  | cons a r=>simp
noncomputable def ltA (a b:Nat):Prop:=a+1+1≠b∧a+1≠b
noncomputable def takesM (a:Addr) (t:Tok) (P:Addr):Str→Option Value:=fun y=>if y=ofString "places" then some (.ref P) else if y=ofString "star" then some (.str (ofString "many") t) else if y=ofString "parts" then some (.ref a) else none
theorem takesM_set (a:Addr) (t:Tok) (P P':Addr):(fun y=>if y=ofString "places" then some (Value.ref P') else takesM a t P y)=takesM a t P':=by
  funext y;unfold takesM;by_cases h : y=ofString "places"<;>simp [h]
noncomputable def rStep (f:Str→Nat→Bool) (cs:List Nat) (R:Nat→Bool) (y:Str):Nat→Bool :=
  if y == ofString "many" then fun j=>decide (j≤cs.length) && (List.range (j+1)).any R else fun j=>decide (1≤j) && R (j - 1) && decide (j - 1 < cs.length) && f y (cs.getD (j - 1) 0)
noncomputable def reach (f:Str→Nat→Bool) (cs:List Nat) (ps:List Str):Nat→Bool:=ps.foldl (rStep f cs) (fun j=>j == 0)
noncomputable def Plc (n:Nat) (R:Nat→Bool) (ns:List Int):Prop:=(∀ k∈ns,0≤k∧k≤n)∧(∀ j:Nat,(j:Int)∈ns↔R j=true)∧ns.length≤n+1
theorem reach_succ {f:Str→Nat→Bool} {cs:List Nat} {ps:List Str} {i:Nat} {y:Str} (h : ps[i]?=some y) : reach f cs (ps.take (i+1))=rStep f cs (reach f cs (ps.take i)) y:=by
  unfold reach
  rw [List.take_add_one,h]
  simp [List.foldl_append]
theorem plc_star {f : Str → Nat → Bool} {cs : List Nat} {R : Nat → Bool} {ns : List Int} {y : Str} {M : Int} (hy : (y == ofString "many") = true) (hp : Plc cs.length R ns) (h1 : M ∈ ns) (h2 : ∀ a, a ∈ ns → M ≤ a) :
    Plc cs.length (rStep f cs R y) (rangeKs M ((cs.length:Int)+1 - M).toNat):=by
  have hM:=hp.1 M h1
  unfold rStep
  rw [if_pos hy]
  refine ⟨fun k hk=>?_,fun j=>?_,by rw [rangeKs_length];omega⟩
  · unfold rangeKs at hk
    obtain ⟨q,hq,rfl⟩:=List.mem_map.mp hk
    have:=List.mem_range.mp hq
    omega
  · simp only [Bool.and_eq_true, decide_eq_true_eq, List.any_eq_true, List.mem_range]
    constructor
    · intros hk
      unfold rangeKs at hk
      obtain ⟨q,hq,e⟩:=List.mem_map.mp hk
      have:=List.mem_range.mp hq
      refine ⟨by omega,M.toNat,by omega,(hp.2.1 _).mp ?_⟩
      rw [Int.toNat_of_nonneg hM.1];exact h1
    · rintro ⟨hj, k, hk, hR⟩
      have:=h2 _ ((hp.2.1 k).mpr hR)
      unfold rangeKs
      refine List.mem_map.mpr ⟨(j - M).toNat,List.mem_range.mpr (by omega),by omega⟩
theorem plc_zero {n:Nat}:Plc n (fun j=>j == 0) [0]:=⟨fun k hk=>by rw [List.mem_singleton.mp hk];omega,fun j=>by simp,by simp⟩
theorem plc_any {n:Nat} {R:Nat→Bool} {ns:List Int} {j:Nat} (h:Plc n R ns):R j=(ns.any fun x=>x == (j:Int)):=by
  rw [Bool.eq_iff_iff,← h.2.1 j];simp
theorem plc_none {f:Str→Nat→Bool} {cs:List Nat} {R:Nat→Bool} {ns:List Int} {y:Str} (hy:(y == ofString "many")=true) (hp:Plc cs.length R ns) (h1:Fct ((!decide (ns=[]))=false)):Plc cs.length (rStep f cs R y) []:=by
  have e : ns=[]:=by have:=h1.out;simpa using this
  subst e
  unfold rStep
  rw [if_pos hy]
  refine ⟨fun k hk=>absurd hk List.not_mem_nil,fun j=>?_,Nat.zero_le _⟩
  simp only [List.not_mem_nil,Bool.and_eq_true,decide_eq_true_eq,List.any_eq_true,List.mem_range,false_iff,not_and,not_exists]
  intros _ k _ hR
  exact absurd ((hp.2.1 k).mpr hR) List.not_mem_nil
theorem plc_step {f : Str → Nat → Bool} {cs : List Nat} {R : Nat → Bool} {ns ms : List Int} {y : Str} (hy : (y == ofString "many") = false) (hp : Plc cs.length R ns)
    (hl : ms.length≤ns.length) (hm:∀ q:Int,q∈ms↔∃ k∈ns,q=k+1∧k < cs.length∧f y (cs.getD k.toNat 0)=true):Plc cs.length (rStep f cs R y) ms:=by
  unfold rStep
  rw [if_neg (by rw [hy];exact Bool.false_ne_true)]
  refine ⟨fun q hq=>?_,fun j=>?_,Nat.le_trans hl hp.2.2⟩
  · obtain ⟨k, hk, rfl, h1, _⟩ := (hm q).mp hq
    have:=hp.1 k hk
    omega
  · simp only [Bool.and_eq_true, decide_eq_true_eq]
    rw [hm]
    constructor
    · rintro ⟨k, hk, e, h1, h2⟩
      have:=hp.1 k hk
      have ek : k=((j - 1:Nat):Int):=by omega
      subst ek
      refine ⟨⟨⟨by omega,(hp.2.1 _).mp hk⟩,by omega⟩,by simpa using h2⟩
    · rintro ⟨⟨⟨h0, hR⟩, h1⟩, h2⟩
      exact ⟨((j - 1:Nat):Int),(hp.2.1 _).mpr hR,by omega,by omega,by simpa using h2⟩
noncomputable def okP (f:Str→Nat→Bool) (cs:List Nat) (y:Str) (k:Int):Bool:=decide (k < (cs.length:Int)) && f y (cs.getD k.toNat 0)
noncomputable def stepL (f:Str→Nat→Bool) (cs:List Nat) (y:Str) (ns:List Int):List Int:=(ns.filter (okP f cs y)).map (·+1)
theorem stepL_no {f:Str→Nat→Bool} {cs:List Nat} {y:Str} {ns:List Int} {i:Nat} {k:Int} (h : ns[i]?=some k) (hk : okP f cs y k=false) : stepL f cs y (ns.take (i+1))=stepL f cs y (ns.take i):=by
  unfold stepL
  rw [List.take_add_one,h,List.filter_append,List.map_append]
  simp [hk]
theorem stepL_yes {f:Str→Nat→Bool} {cs:List Nat} {y:Str} {ns:List Int} {i:Nat} {k:Int} (h : ns[i]?=some k) (hk : okP f cs y k=true) : stepL f cs y (ns.take (i+1))=stepL f cs y (ns.take i)++[k+1]:=by
  unfold stepL
  rw [List.take_add_one,h,List.filter_append,List.map_append]
  simp [hk]
theorem plc_stepL {f:Str→Nat→Bool} {cs:List Nat} {R:Nat→Bool} {ns:List Int} {y:Str} (hy:(y == ofString "many")=false) (hp:Plc cs.length R ns):Plc cs.length (rStep f cs R y) (stepL f cs y ns) :=
  plc_step hy hp (by unfold stepL;rw [List.length_map];exact List.length_filter_le _ _) fun q=>by
    unfold stepL okP
    simp only [List.mem_map,List.mem_filter,Bool.and_eq_true,decide_eq_true_eq]
    constructor
    · rintro ⟨k,⟨h1,h2,h3⟩,rfl⟩;exact ⟨k,h1,rfl,h2,h3⟩
    · rintro ⟨k,h1,rfl,h2,h3⟩;exact ⟨k,⟨h1,h2,h3⟩,rfl⟩
theorem itemNat (cs:List Nat) {k:Int} (h : 0≤k) (hk : k < (cs.length:Int)):Txt.item ⟨cs.toArray⟩ k=⟨#[cs.getD k.toNat 0]⟩:=by
  obtain ⟨n,rfl⟩:=Int.eq_ofNat_of_zero_le h
  have hn : n < cs.length:=by omega
  unfold Txt.item Txt.charAt
  have e1 : seqIndex? (n:Int) (⟨cs.toArray⟩:Str).length=some n:=by
    have hl:(⟨cs.toArray⟩:Str).length=cs.length:=by simp [Str.length]
    unfold seqIndex?
    rw [hl]
    have h0 : ¬ ((n:Int) < 0):=by omega
    simp [h0,hn]
  rw [e1]
  simp [hn]
theorem newsSub4 {h₀ h:Heap} {L:Addr} {all:List (Addr×Obj)} {a b c d:Addr×Obj} (N:News h₀ L h all) (h1 : a∈all) (h2 : b∈all) (h3 : c∈all) (h4 : d∈all):News h₀ L h [a,b,c,d]:=fun p hp=>by
  simp only [List.mem_cons,List.not_mem_nil,or_false] at hp
  rcases hp with rfl | rfl | rfl | rfl
  · exact N _ h1
  · exact N _ h2
  · exact N _ h3
  · exact N _ h4
theorem offThree {I:Addr} {a b c:Addr×Obj} (h1 : a.1≠I) (h2 : b.1≠I) (h3 : c.1≠I):∀ p∈[a,b,c],p.1≠I:=fun p hp=>by
  simp only [List.mem_cons,List.not_mem_nil,or_false] at hp
  rcases hp with rfl | rfl | rfl
  · exact h1
  · exact h2
  · exact h3
example:True:=by
  k_with "call builtin:min"=>((k_extra "gF";(k_here;(with_reducible show wpAny _ _ (call (Value.builtin "min") [Value.ref _]) _ _ _);(rename Fct ((!decide (_=_))=true)=>zqg7dhne9);k_dflt (refine' min_list_N rfl ?kwF ?kwN ?kwhl ?kwhi ?kwhne ?_;(case kwF=>k_asm);(case kwN=>k_asm);(case kwhl=>exact News.isList (by k_asm) (by k_mem));(case kwhi=>assumption);(case kwhne=>exact lenpos_of zqg7dhne9));intro zqg7dh' zqg7dM zqg7dt' zqg7dtk' zqg7dF' zqg7dN' zqg7dhM1 zqg7dhM2;(rename Plc _ _ _=>zqg7dhb9);(have zqg7dhM3:=zqg7dhb9.1 _ zqg7dhM1);k_sweep)))
  k_with "exec Assign cons ListComp"=>((k_extra "gF";(k_here;refine Stopped.go ?_)))
  k_with "call ref"=>((k_here;(refine cI (n:=288) (by with_reducible rfl) ?_);(rename (∀ _,sP 288 2 _ _ _)=>zqg7fhs8);k_dflt (refine' (zqg7fhs8 _) ?kwB ?kwF ?kwX ?kwT ?kwc1 ?kwc2 ?kwc3 ?kwc4 ?kwd ?kwu ?kwp ?_;walk_at "m_used")))
  k_with "ite"=>((k_extra "gF";(k_here;first | with_reducible refine ite_tt ?_ | with_reducible refine ite_ff ?_ | refine ite_pos (Fct.out (by with_reducible assumption)) ?_ | refine ite_neg (ne_true_of (Fct.out (by with_reducible assumption))) ?_ | refine ite_neg (Fct.out (by with_reducible assumption)) ?_ | ((refine iteF ?_ ?_)<;>intro _))))
  trivial
noncomputable def law_takes_S (a:Addr) (vs:List Value) (ps:List Str) (cs:List Nat) (t u:Tok) (f:Str→Nat→Bool):Prop:=∀ (hv:StrsAre vs ps) (hx : cs.length≤100) (hsg:∀ y∈ps,(y == ofString "many")=false→∀ c∈cs,∀ t u,sP 288 2 [.str y t,.str ⟨#[c]⟩ u] nPr (PBool (f y c))),sP 293 5 [.ref a,.str (ofString "many") t,.str ⟨cs.toArray⟩ u] (fun h=>h.IsList a vs.toArray) (PBool (reach f cs ps cs.length))
theorem law_takes_P:∀ (a:Addr) (vs:List Value) (ps:List Str) (cs:List Nat) (t u:Tok) (f:Str→Nat→Bool),law_takes_S a vs ps cs t u f:=by
  intro a vs ps cs t u f
  intros hv hx hsg
  have hxl:(⟨cs.toArray⟩:Str).length=cs.length:=by simp [Str.length]
  k_extra "r1"
  intros B F X T hf hke hdp hun hpre hret
  refine wpAny_call ?_
  k_dflt refine' enterC (binds:=[(ofString "parts",.ref a),(ofString "star",.str (ofString "many") t),(ofString "path",.str ⟨cs.toArray⟩ u)]) B F X T rfl hf hke ?k6 ?k7 ?k8 ?k9 ?kB ?kD ?c2 ?c3 ?c4 ?_
  walk_at "m_fillC"
  clear F X T B hf hke
  intro L' h₁ tk₁ cells F N Y B X T
  ((first | refine exE (CellsAre.two Y) ?_ | refine aE (CellsAre.two Y) ?_);intro o1;intro zz;k_extra "e";intro o2;intro zz;k_extra "e";intro hE;intro zz;k_extra "e";intro d1;intro d2)
  subst hE;clear Y;(try dsimp only)
  replace d1 : o1.data=.cell none:=d1
  replace d2 : o2.data=.cell (some (.str ⟨cs.toArray⟩ u)):=d2
  replace F:Fr s.heap L' h₁ (fun y=>if y=ofString "star" then some (.str (ofString "many") t) else if y=ofString "parts" then some (.ref a) else none):=F
  k_steps
  with_unfolding_all refine forGen (h₀:=s.heap) (L:=L') (ax:=a) (vs:=vs) (fun i m' news'=>∃ P o oc ns,m'=takesM a t P∧news'=[(P,o),(L'+1+1,oc),(L'+1,o2)]∧IntL o ns∧(∃ v,oc.data=.cell v)∧ltA L' P∧Plc cs.length (reach f cs (ps.take i)) ns) rfl ?src ?hit ?step ?done
  case src =>
    (intro i m' news' h';intro _;intro F';intro _)
    exact hpre.at fun o e=>F'.keep _ _ e
  case hit =>
    k_steps
    (rename Fr _ _ _ _=>F5);(rename News _ _ _ _=>N5);(rename (_ < _∧_ < _)=>l5)
    exact ⟨rfl,_,_,_,_,rfl,F5,N5,_,_,_,[0],rfl,rfl,⟨_,_,rfl,.cons _ _ .nil⟩,⟨_,d1⟩,(by unfold ltA;constructor<;>(show @Ne Nat _ _)<;>omega),plc_zero⟩
  case done =>
    (intro m₁ news₁ h tk zo3;(first | refine exE zo3 ?_ | refine aE zo3 ?_);clear zo3;intro P zz;k_extra "e";intro o zz;k_extra "e";intro oc zz;k_extra "e";intro ns zz;k_extra "e";intro zo4 zz;subst zo4;k_extra "e";intro zo5 zz;subst zo5;k_extra "e";intro zo6 zz;(first | refine exE zo6 ?_ | refine aE zo6 ?_);clear zo6;intro ys zz;k_extra "e";intro n zz;k_extra "e";intro zo7 hI;subst zo7;k_extra "e";intro uo8 zz;k_extra "e";intro hlt hp F' N')
    k_steps
    refine hret _ _ _ F'.keep (Nat.le_trans F'.above (Nat.le_of_lt F'.ns.lt)) ?_
    have e1 : vs.length=ps.length:=StrsAre.length hv
    (replace hp:=hp;rw [e1,List.take_length] at hp)
    show _=_
    rw [hxl,← plc_any hp]
  case step =>
    (intro i v m₁ news₁ h tk I oI hi zo9;(first | refine exE zo9 ?_ | refine aE zo9 ?_);clear zo9;intro P zz;k_extra "e";intro o zz;k_extra "e";intro oc zz;k_extra "e";intro ns zz;k_extra "e";intro zo10 zz;subst zo10;k_extra "e";intro zo11 zz;subst zo11;k_extra "e";intro zo12 zz;(first | refine exE zo12 ?_ | refine aE zo12 ?_);clear zo12;intro ys zz;k_extra "e";intro n zz;k_extra "e";intro zo13 hI;subst zo13;k_extra "e";intro zo14 zz;(first | refine exE zo14 ?_ | refine aE zo14 ?_);clear zo14;intro v₀ hc;k_extra "e";intro hlt hp F' N' off)
    have off1 : @Ne Nat P I:=off _ (.head _)
    have off2 : @Ne Nat (L'+1+1) I:=off _ (.tail _ (.head _))
    have off3 : @Ne Nat (L'+1) I:=off _ (.tail _ (.tail _ (.head _)))
    clear off
    have hlt2 : @Ne Nat (L'+1+1) P:=hlt.1
    have hlt3 : @Ne Nat (L'+1) P:=hlt.2
    clear hlt
    ((first | refine exE (strsGet hv hi) ?_ | refine aE (strsGet hv hi) ?_);intro y;intro zz;k_extra "e";intro t';intro zz;k_extra "e";intro zo1;intro hy;subst zo1)
    k_steps
    · (rename Fr _ _ _ _ => F5); (rename News _ _ _ _ => N5); (rename IntsAre _ (rangeKs _ _) => hI5); (rename (_ = Data.cell (some _)) => d5); (rename Fct ((y == _) = true) => hy5); (rename Plc _ _ _ => hp5); (rename (_ ∈ ns) => hM5); (rename (∀ a, a ∈ ns → _ ≤ a) => hM6); (rename (_ < _ ∧ _ < _ ∧ _ < _ ∧ _ < _ ∧ _ < _) => l5)
      (replace F5:=F5;rw [takesM_set] at F5)
      (replace hI5:=hI5;rw [hxl] at hI5)
      exact ⟨_,_,_,_,rfl,F5,newsSub4 N5 (by k_mem) (by k_mem) (by k_mem) (by k_mem),offThree (by show @Ne Nat _ _;omega) (by show @Ne Nat _ _;omega) (by show @Ne Nat _ _;omega),_,_,_,_,rfl,rfl,⟨_,_,rfl,hI5⟩,⟨_,d5⟩,(by unfold ltA;constructor<;>(show @Ne Nat _ _)<;>omega),reach_succ hy ▸ plc_star hy5.out hp5 hM5 hM6⟩
    · (rename Fr _ _ _ _ => F5); (rename News _ _ _ _ => N5); (rename (_ = Data.cell (some _)) => d5); (rename Fct ((y == _) = true) => hy5); (rename Fct ((!decide (ns = _)) = false) => hn5); (rename (_ < _ ∧ _ < _ ∧ _ < _ ∧ _ < _) => l5)
      (replace F5:=F5;rw [takesM_set] at F5)
      exact ⟨_,_,_,_,rfl,F5,newsSub4 N5 (by k_mem) (by k_mem) (by k_mem) (by k_mem),offThree (by show @Ne Nat _ _;omega) (by show @Ne Nat _ _;omega) (by show @Ne Nat _ _;omega),_,_,_,_,rfl,rfl,⟨[],_,rfl,.nil⟩,⟨_,d5⟩,(by unfold ltA;constructor<;>(show @Ne Nat _ _)<;>omega),reach_succ hy ▸ plc_none hy5.out hp hn5⟩
    · (rename Fr _ _ _ _ => F5); (rename News _ _ _ _ => N5); (rename (_ = Data.cell (some _)) => d5); (rename Fct ((y == _) = false) => hy5)
      show wpAny _ _ _ _ _ _
      refine LCt.Assign_ListComp_T (F₀:=F5) (by rfl) (by with_unfolding_all rfl) (by with_unfolding_all rfl) (by decide) (by rfl) (by decide) (by rfl) (by rfl) (by rfl) ?_
      walk1
      have hlenI:=IntsAre.length hI
      rename Plc _ _ _=>hp5
      refine LCt.CompSrcT.ledger (by rfl) F5 N5 (by k_mem) (by rw [List.size_toArray,hlenI];show _≤_;have:=hp5.2.2;rw [PySem.sizeLine_eq];omega) ?_
      intro g'
      rw [List.size_toArray,hlenI]
      rename (_=Data.cell (some (Value.str y _)))=>d5
      rename (Obj)=>oc5
      refine compRestT_inv (J:=fun i ys' news'=>news'=[(I,oI),(P,{ cls:=.type "list",data:=.seq ys.toArray n }),(L'+1+1,oc5),(L'+1,o2)]∧IntsAre ys' (stepL f cs y (ns.take i))) ⟨rfl,.nil⟩ ?_ ?_
      · (intro j ys'; intro _; intro hj zo15; (first | refine exE zo15 ?_ | refine aE zo15 ?_); clear zo15; intro zo16 hJ; subst zo16; intro v I2 oI2 C oC D m₂ h3 tk3 E' hPv hNs hm2 F' N' off' ne')
        (try (replace off':=off';simp only [LCg.Off3,and_true] at off'))
        ((first | refine exE (iG hI (by simpa using hPv)) ?_ | refine aE (iG hI (by simpa using hPv)) ?_);intro k;intro zz;k_extra "e";intro tk;intro zz;k_extra "e";intro zo2;intro hk;subst zo2)
        have hk0:=hp5.1 k (List.mem_of_getElem? hk)
        have hy5:(y == ofString "many")=false:=Fct.out (by assumption)
        by_cases hkl : k < (cs.length:Int)
        · have hit : Fct (Txt.item ⟨cs.toArray⟩ k = ⟨#[cs.getD k.toNat 0]⟩) := ⟨itemNat cs hk0.1 hkl⟩
          have hs9:∀ u,sP 288 2 [.str y t',.str ⟨#[cs.getD k.toNat 0]⟩ u] nPr (PBool (f y (cs.getD k.toNat 0))):=fun u=>hsg y (List.mem_of_getElem? hy) hy5 (cs.getD k.toNat 0) (by rw [List.getD_eq_getElem?_getD,List.getElem?_eq_getElem (by omega)];exact List.getElem_mem _) t' u
          have hd9:Fct (decide (k < (((⟨cs.toArray⟩:Str).length:Nat):Int))=true):=⟨by rw [hxl];exact decide_eq_true hkl⟩
          have hr9 : fitsSsize k=true:=by unfold fitsSsize;simp;omega
          have hkl9 : k < (((⟨cs.toArray⟩:Str).length:Nat):Int):=by rw [hxl];exact hkl
          k_steps
          · (rename Fct (f _ _ = true) => hf9)
            have e9 : okP f cs y k=true:=by unfold okP;rw [hf9.out];simp [hkl]
            exact stepL_yes hk e9 ▸ intsSnoc hJ
          · (rename Fct (f _ _ = false) => hf9)
            have e9 : okP f cs y k=false:=by unfold okP;rw [hf9.out];simp
            exact stepL_no hk e9 ▸ hJ
        · have hd9 : Fct (decide (k < (((⟨cs.toArray⟩ : Str).length : Nat) : Int)) = false) := ⟨by rw [hxl]; exact decide_eq_false hkl⟩
          k_steps
          have e9 : okP f cs y k=false:=by unfold okP;simp [hkl]
          exact stepL_no hk e9 ▸ hJ
      · (intro ys'; intro _; intro zo17; (first | refine exE zo17 ?_ | refine aE zo17 ?_); clear zo17; intro zo18 hJ; subst zo18)
        k_steps
        (rename Fr _ _ _ _=>F5);(rename News _ _ _ _=>N5);(rename (_≠_∧_≠_∧_≠_∧_≠_)=>l5)
        (replace F5:=F5;rw [takesM_set] at F5)
        (replace hJ:=hJ;rw [List.take_length] at hJ)
        exact ⟨_,_,_,_,rfl,F5,newsSub4 N5 (by k_mem) (by k_mem) (by k_mem) (by k_mem),offThree (Ne.symm l5.1) off2 off3,_,_,_,_,rfl,rfl,⟨_,_,rfl,hJ⟩,⟨_,d5⟩,⟨l5.2.2.1,l5.2.2.2⟩,reach_succ hy ▸ plc_stepL hy5.out hp5⟩
theorem law_takes : ∀ (a : Addr) (vs : List Value) (ps : List Str) (hv : StrsAre vs ps) (cs : List Nat) (t u : Tok) (hx : cs.length ≤ 100) (f : Str → Nat → Bool)
   (hsg:∀ y∈ps,(y == ofString "many")=false→∀ c∈cs,∀ t u,sP 288 2 [.str y t,.str ⟨#[c]⟩ u] nPr (PBool (f y c))),sP 293 5 [.ref a,.str (ofString "many") t,.str ⟨cs.toArray⟩ u] (fun h=>h.IsList a vs.toArray) (PBool (reach f cs ps cs.length)):=fun a vs ps hv cs t u hx f hsg=>law_takes_P a vs ps cs t u f hv hx hsg
example:True:=by
  k_with "oleN"=>apply Lx.l370
  trivial
noncomputable def pats (p q r:Str):List Str :=
  [ofString "*/??["++p++q++ofString "]",ofString "*/?[!"++p++q++ofString "]?",ofString "/["++p++ofString "-"++q++ofString "]?/*",ofString "/["++q++ofString "-"++p++ofString "]?/*",
   ofString "*"++r++ofString "*",ofString "*"++r++r,ofString "/"++r++ofString "/*",ofString "/[!"++p++ofString "]*[!"++q++ofString "]/*",ofString "*/"++q++ofString "*"++r,
   ofString "*[!"++q++ofString "-"++p++ofString "]",ofString "*[!"++p++ofString "-"++q++ofString "]"]
noncomputable def PStrs (ys:List Str):Heap→Value→Heap→Prop:=PNew fun o=>∃ vs n,o={ cls:=.type "list",data:=.seq (List.toArray vs) n }∧StrsAre vs ys
noncomputable def law_patterns_S (p' q' r':Str) (t u v:Tok):Prop:=∀ (hp' : p'.length=1) (hq' : q'.length=1) (hr' : r'.length=1),sP 274 2 [.str p' t,.str q' u,.str r' v] nPr (PStrs (pats p' q' r'))
theorem law_patterns_P:∀ (p' q' r':Str) (t u v:Tok),law_patterns_S p' q' r' t u v:=by
  intro p' q' r' t u v
  intros hp' hq' hr'
  k_extra "r1"
  intros B F X T hf hke hdp hun hpre hret
  refine wpAny_call ?_
  k_dflt refine' enterP (binds:=[(ofString "p",.str p' t),(ofString "q",.str q' u),(ofString "r",.str r' v)]) B F X T rfl hf hke ?k6 ?k7 ?k8 ?k9 ?kB ?c5 ?c2 ?c3 ?c4 ?_
  walk_at "m_fill"
  clear F X T B hf hke
  intro L' h₁ F N B X T;(try dsimp only)
  k_steps
  all_goals (rename Fr _ _ _ _=>F9);refine hret _ _ _ F9.keep (Nat.le_trans F9.above (Nat.le_of_lt F9.ns.lt)) ?_
  (rename News _ _ _ _=>N9)
  refine pnew_of N9 (.head _) ⟨_,_,rfl,?_⟩
  trace_state
  (repeat constructor)
theorem law_patterns:∀ (p' q' r':Str) (t u v:Tok) (hp' : p'.length=1) (hq' : q'.length=1) (hr' : r'.length=1),sP 274 2 [.str p' t,.str q' u,.str r' v] nPr (PStrs (pats p' q' r')):=fun p' q' r' t u v hp' hq' hr'=>law_patterns_P p' q' r' t u v hp' hq' hr'
end
end
example:True:=by
  k_with "of"=>apply Lx.l324<;>assumption
  k_with "of"=>apply Lx.l340<;>assumption
  k_with "oltN"=>apply Lx.l48<;>assumption
  k_with "oleN"=>apply Lx.l346<;>assumption
  k_with "of"=>apply Lx.l378<;>assumption
  k_with "oltN"=>apply Lx.l52<;>assumption
  k_with "oltI"=>apply Lx.l550<;>assumption
  k_with "of"=>apply Lx.l320<;>assumption
  k_with "of"=>apply Lx.l437<;>assumption
  k_with "oltI"=>apply Lx.l424<;>assumption
  k_with "oleI"=>apply Lx.l503<;>assumption
  k_with "of"=>apply Lx.l479<;>assumption
  k_with "of"=>apply Lx.l418<;>assumption
  k_with "of"=>apply Lx.l544<;>assumption
  k_with "of"=>apply Lx.l513<;>assumption
  k_with "of"=>apply Lx.l514<;>assumption
  k_with "oltI"=>apply Lx.l475<;>assumption
  trivial
noncomputable def PQ (P:List Value→Prop) (o:Obj):Prop:=∃ q n,o={ cls:=.type "list",data:=.seq (List.toArray q) n }∧P q
structure Halt : Prop where
  mk ::
theorem replFlat (v:Value) (n:Nat):(List.replicate ((n:Nat):Int).toNat [v]).flatten=List.replicate n v:=by
  show (List.replicate n [v]).flatten=_
  induction n with
  | zero=>rfl
  | succ n ih=>exact congrArg (v::·) ih
theorem replLe {v:Value} {n:Nat} (h : n≤3) : [v].length*((n:Nat):Int).toNat≤256:=by
  show 1*n≤256;omega
theorem replLo (n:Nat) : -(2 ^ 63:Int)≤((n:Nat):Int):=by omega
theorem replHi {n:Nat} (h : n≤3):((n:Nat):Int) < 2 ^ 63:=by omega
theorem replSz (v:Value) (n:Nat):(((List.replicate n v).toArray.size:Nat):Int)=((n:Nat):Int):=by simp
theorem replLen {n:Nat} (h : n≤3):((n:Nat):Int)≤16384:=by omega
theorem five {g h:Heap} {L:Addr} {a b c d e x y:Addr×Obj} (N:News g L h [a,b,c,d,e,x,y]):News g L h ([a,b,c,d,e]++[x,y]):=N
theorem offFive {a b c d e:Addr×Obj} {P cP:Addr} (h1 : @Ne Nat a.1 P) (h2 : @Ne Nat b.1 P) (h3 : @Ne Nat c.1 P) (h4 : @Ne Nat d.1 P) (h5 : @Ne Nat e.1 P) (k1 : @Ne Nat a.1 cP) (k2 : @Ne Nat b.1 cP) (k3 : @Ne Nat c.1 cP) (k4 : @Ne Nat d.1 cP) (k5 : @Ne Nat e.1 cP):∀ q∈[a,b,c,d,e],q.1≠P∧q.1≠cP :=
  List.forall_mem_cons.mpr ⟨⟨h1,k1⟩,List.forall_mem_cons.mpr ⟨⟨h2,k2⟩,List.forall_mem_cons.mpr ⟨⟨h3,k3⟩,List.forall_mem_cons.mpr ⟨⟨h4,k4⟩,List.forall_mem_cons.mpr ⟨⟨h5,k5⟩,List.forall_mem_nil _⟩⟩⟩⟩⟩
theorem ltFive {a b c d e:Addr×Obj} {P f c':Addr} (h:∀ q∈[a,b,c,d,e],q.1 < f∧q.1≠c') (l2 : c' < f∧P < f) : a.1 < f∧b.1 < f∧c.1 < f∧d.1 < f∧e.1 < f∧P < f∧c' < f :=
  ⟨(h _ (.head _)).1,(h _ (.tail _ (.head _))).1,(h _ (.tail _ (.tail _ (.head _)))).1,(h _ (.tail _ (.tail _ (.tail _ (.head _))))).1,(h _ (.tail _ (.tail _ (.tail _ (.tail _ (.head _)))))).1,l2.2,l2.1⟩
theorem neFive {a b c d e:Addr×Obj} {f c':Addr} (h:∀ q∈[a,b,c,d,e],q.1 < f∧q.1≠c'):Fct (@Ne Nat c' a.1)∧Fct (@Ne Nat a.1 c')∧Fct (@Ne Nat b.1 c')∧Fct (@Ne Nat c.1 c')∧Fct (@Ne Nat d.1 c')∧Fct (@Ne Nat e.1 c') :=
  ⟨⟨Ne.symm (h _ (.head _)).2⟩,⟨(h _ (.head _)).2⟩,⟨(h _ (.tail _ (.head _))).2⟩,⟨(h _ (.tail _ (.tail _ (.head _)))).2⟩,⟨(h _ (.tail _ (.tail _ (.tail _ (.head _))))).2⟩,⟨(h _ (.tail _ (.tail _ (.tail _ (.tail _ (.head _)))))).2⟩⟩
theorem fiveOfSix {a b c d e f:Prop} (h : a∧b∧c∧d∧e∧f) : a∧b∧c∧d∧e:=⟨h.1,h.2.1,h.2.2.1,h.2.2.2.1,h.2.2.2.2.1⟩
example:True:=by
  k_with "binaryOp Mult ref int"=>((k_here;(with_reducible show wpAny _ _ (binaryOp Operator.Mult (Value.ref _) (Value.int _ _)) _ _ _);(rename Fct (Int.fdiv _ _=_)=>zqa15hf9);rw [zqa15hf9.out];k_dflt (refine' KMa.mul ?kwF ?kwN ?kwl ?kwlo ?kwhi ?kwz (replFlat _ _) ?_;(case kwF=>k_asm);(case kwN=>k_asm);(case kwl=>is_list);(case kwlo=>exact replLo _);(case kwhi=>exact replHi (by with_reducible assumption));(case kwz=>exact replLe (by with_reducible assumption));k_whole);intro zqa15D' zqa15h' zqa15F' zqa15N' zqa15l1;(try k_lt zqa15l1);(try k_sweep)))
  k_with "call builtin:len"=>((k_here;(with_reducible show wpAny _ _ (call (Value.builtin "len") [Value.ref _]) _ _ _);k_dflt (refine' kun_lenL ?kwk1 (replSz _ _) ?kwk3 ?_;(case kwk1=>exact News.isList (by k_asm) (by k_mem));(case kwk3=>exact replLen (by with_reducible assumption));k_whole)))
  k_with "exec FunctionDef"=>((k_here;(rename Halt=>zqa17hs9);refine Stopped.go ?_))
  k_with "call ref"=>((k_here;(with_reducible show wpAny _ _ (call (Value.ref _) [Value.int _ _,Value.int _ _,Value.int _ _]) _ _ _);(rename Fr _ _ _ _=>zqa18F9);(rename News _ _ _ _=>zqa18N9);(rename InQ _ _ _ _ _=>zqa18H9);k_dflt (refine' inCast 0 _ rfl rfl ?_;refine' zqa18H9 ?kwdp ?kwun ?kwhf ?kwhke ?kwB ?kwX ?kwT ?kwe1 ?kwe2 ?kwd1 ?kwd2 ?kwd3 ?kwlt ?kwlD ?kwlE ?kwhx zqa18F9 zqa18N9 ?_);k_dflt (walk_at "in_fill")))
  k_with "in_fill"=>(((case kwdp=>((k_extra "s1");(try dsimp only);omega));(case kwun=>((k_extra "s6");(try dsimp only);omega));(case kwhf=>first | exact rfl | with_reducible assumption);(case kwhke=>first | exact rfl | with_reducible assumption);(case kwB=>k_asm);(case kwX=>k_asm);(case kwT=>k_asm);(case kwe1=>with_reducible assumption);(case kwe2=>assumption);(case kwd1=>with_reducible assumption);(case kwd2=>with_reducible assumption);(case kwd3=>with_reducible assumption);(case kwlt=>with_reducible assumption);(case kwlD=>exact fiveOfSix (by with_reducible assumption));(case kwlE=>with_reducible assumption);(case kwhx=>exact Int.le_of_eq (replSz _ _).symm);(rename Fr _ _ _ _=>zqa19F8);(rename News _ _ _ _=>zqa19N8);clear zqa19F8 zqa19N8;intro zqa19h' zqa19tk' zqa19q;intro zqa19hR zqa19F' zqa19N';(try dsimp only)))
  trivial
theorem i2dN:∀ (a n:Nat) (t u:Tok) (P:List Value→Prop),n≤3→Fct (((((Builtin.Int.intBits (a:Int):Nat):Int)+10 - 1).fdiv 10)=(n:Int)) →
    (Fct (((a:Int) != 0)=false)∧n=0∧P [])∨(Fct (((a:Int) != 0)=true)∧∃ R,InQ n 0 n a R∧∀ v q,R (List.replicate n (.int 0 v)) q→P q) →
    sM 105 8 [.int (a:Int) t,.int 10 u] nPr (PNew (PQ P)) (Tab1 100 162 4 (ofString "_int2digits.<locals>.inner")) (Tab1 100 162 4 (ofString "_int2digits.<locals>.inner")):=by
  intro a n t u P
  intros hn hk hc
  k_extra "r16"
  intros B F Nm hO X T hf hke hdp hun hpre hret
  refine wpAny_call ?_
  ((first | refine exE hO ?_ | refine aE hO ?_);clear hO;intro oP;intro zz;k_extra "e";intro cP;intro zz;k_extra "e";intro ocP;intro zz;k_extra "e";intro zo4;intro hst;subst zo4)
  k_dflt refine' enterCM (binds:=[(ofString "a",.int (a:Int) t),(ofString "n",.int 10 u)]) B F Nm X T rfl hf hke ?k6 ?k7 ?k8 ?k9 ?kB ?kD ?c2 ?c3 ?c4 ?_
  walk_at "m_fillC"
  clear F X T B hf hke
  intro g L' h₁ tk₁ cells hg F N Y B X T hlt hsz
  ((first | refine exE (CellsAre.three Y) ?_ | refine aE (CellsAre.three Y) ?_);intro o1;intro zz;k_extra "e";intro o2;intro zz;k_extra "e";intro o3;intro zz;k_extra "e";intro hE;intro zz;k_extra "e";intro d1;intro zz;k_extra "e";intro d2;intro d3)
  subst hE;clear Y;(try simp only [List.cons_append,List.nil_append] at N);(try dsimp only)
  have C:=codeHd_of_K (c:=104) (P:=100) X (by kernel_rfl)
  replace d1 : o1.data=.cell none:=d1
  replace d2 : o2.data=.cell none:=d2
  replace d3 : o3.data=.cell (some (.int 10 u)):=d3
  replace F:Fr g L' h₁ (fun y=>if y=ofString "a" then some (.int (a:Int) t) else none):=F
  k_lt hlt
  have hs:Halt:=.mk
  k_steps
  (rename Halt=>hs9);clear hs9
  unfold Stopped
  k_dflt (refine' nestDef_K ?d0 ?k0 ?a0 ?_;(case d0=>exact rfl);(case k0=>exact rfl);(case a0=>exact rfl))
  (rename Fr _ _ _ _=>F5);(rename News _ _ _ _=>N5)
  k_dflt (refine' nestTab F5 (five N5) T C hst ?off rfl rfl rfl ?cl ?_;(case cl=>exact rfl);(case off=>(refine' offFive ?_ ?_ ?_ ?_ ?_ ?_ ?_ ?_ ?_ ?_<;>(dsimp only;omega))))
  clear F5 N5
  intro f' c' oc' vs' t' ct' dc' h2 tk2 F2 N2 e1 e2 l2 l3
  have l4:=ltFive l2 l3
  have l5:=neFive l2
  clear l2 l3
  (replace l4:=l4;dsimp only at l4)
  (replace l5:=l5;dsimp only at l5)
  ((first | refine exE l5 ?_ | refine aE l5 ?_);clear l5;intro g1;intro zz;k_extra "e";intro g2;intro zz;k_extra "e";intro g3;intro zz;k_extra "e";intro g4;intro zz;k_extra "e";intro g5;intro g6)
  ((replace N2:=N2;simp only [List.cons_append,List.nil_append] at N2))
  (refine or2E hc ?alo1_0 ?alo1_1;(case' alo1_1=>(clear hc;intro zo2;(first | refine exE zo2 ?_ | refine aE zo2 ?_);clear zo2;intro ha;intro zz;k_extra "e";intro R;intro zz;k_extra "e";intro H;intro hR));(case' alo1_0=>(clear hc;intro zo3;(first | refine exE zo3 ?_ | refine aE zo3 ?_);clear zo3;intro ha;intro zz;k_extra "e";intro hn0;intro hx0)))
  · k_steps
    k_extra "r17"
    subst hg
    k_extra "r18"
    (case c1=>k_mem)
    (case c2=>k_mem)
    refine pnew_of N9 (by k_mem) ⟨_,_,rfl,?_⟩
    rw [hn0]
    exact hx0
  · k_steps
    k_extra "r17"
    subst hg
    k_extra "r18"
    (case c1=>k_mem)
    (case c2=>k_mem)
    (rename R _ _=>r9)
    exact pnew_of N9 (by k_mem) ⟨_,_,rfl,hR _ _ r9⟩
theorem ne0 {a:Nat} (h : 1≤a):((a:Int) != 0)=true:=by simp;omega
theorem pq_mono {P:List Value→Prop} {O:Obj→Prop} (k:∀ q n,P q→O { cls:=.type "list",data:=.seq q.toArray n }) (g:Heap) (v:Value) (h':Heap) (h:PNew (PQ P) g v h'):PNew O g v h':=by
  obtain ⟨a,o,e1,e2,e3,q,n,rfl,hq⟩:=h
  exact ⟨a,_,e1,e2,e3,k q n hq⟩
theorem i2dL0 (t u:Tok):sM 105 8 [.int ((0:Nat):Int) t,.int 10 u] nPr (PL0 ) (Tab1 100 162 4 (ofString "_int2digits.<locals>.inner")) (Tab1 100 162 4 (ofString "_int2digits.<locals>.inner")) :=
  specM_mono (i2dN 0 0 t u (fun q=>q=[]) (by decide) ⟨by decide⟩ (.inl ⟨⟨rfl⟩,rfl,rfl⟩)) (pq_mono fun q n hq=>⟨n,by rw [hq]⟩)
theorem i2dL1 (a:Nat) (t u:Tok) (h1 : 1≤a) (h2 : a < 1024):sM 105 8 [.int (a:Int) t,.int 10 u] nPr (PL1 (a:Int)) (Tab1 100 162 4 (ofString "_int2digits.<locals>.inner")) (Tab1 100 162 4 (ofString "_int2digits.<locals>.inner")) :=
  specM_mono (i2dN a 1 t u (fun q=>∃ t,q=[.int (a:Int) t]) (by decide) ⟨cnt1 h1 h2⟩ (.inr ⟨⟨ne0 h1⟩,_,inLeaf0 _,fun _ _ h=>h⟩)) (pq_mono fun q n hq=>⟨n,hq.elim fun t e=>⟨t,by rw [e]⟩⟩)
theorem i2dL2 (a:Nat) (t u:Tok) (h1 : 1024≤a) (h2 : a < 1048576):sM 105 8 [.int (a:Int) t,.int 10 u] nPr (PL2 ((a % 1024:Nat):Int) ((a / 1024:Nat):Int)) (Tab1 100 162 4 (ofString "_int2digits.<locals>.inner")) (Tab1 100 162 4 (ofString "_int2digits.<locals>.inner")) :=
  specM_mono (i2dN a 2 t u (R2 0 (a:Int) [.none,.none]) (by decide) ⟨cnt2 h1 h2⟩ (.inr ⟨⟨ne0 (Nat.le_trans (by decide) h1)⟩,_,inNode0 _ (Int.natCast_nonneg a) (by omega),fun _ _ h=>h⟩)) (pq_mono fun q n hq=>⟨n,hq.elim fun t hq=>⟨t,hq.elim fun u e=>⟨u,by rw [e,xorLow,fdiv1024];rfl⟩⟩⟩)
theorem i2dL3 (a:Nat) (t u:Tok) (h1 : 1048576≤a) (h2 : a < 1073741824):sM 105 8 [.int (a:Int) t,.int 10 u] nPr (PL3 ((a % 1024:Nat):Int) ((a / 1024 % 1024:Nat):Int) ((a / 1024 / 1024:Nat):Int)) (Tab1 100 162 4 (ofString "_int2digits.<locals>.inner")) (Tab1 100 162 4 (ofString "_int2digits.<locals>.inner")) :=
  specM_mono (i2dN a 3 t u (fun q=>∃ v,R3 (a:Int) (List.replicate 3 (.int 0 v)) q) (by decide) ⟨cnt3 h1 h2⟩ (.inr ⟨⟨ne0 (Nat.le_trans (by decide) h1)⟩,_,inNode3 _ (Int.natCast_nonneg a) (by omega),fun v _ h=>⟨v,h⟩⟩)) (pq_mono fun q n hq=>⟨n,hq.elim fun v hq=>hq.elim fun q1 hq=>hq.1.elim fun t1 e1=>⟨t1,hq.2.elim fun t2 hq=>⟨t2,hq.elim fun t3 e=>⟨t3,by rw [e,e1,xorLow,xorLow2,fdiv2];rfl⟩⟩⟩⟩)
example:True:=by
  k_with "oltI"=>apply Lx.l198<;>assumption
  k_with "oltI"=>apply Lx.l254<;>assumption
  k_with "of"=>apply Lx.l292<;>assumption
  k_with "oleI"=>apply Lx.l472<;>assumption
  k_with "of"=>apply Lx.l257<;>assumption
  k_with "of"=>apply Lx.l428<;>assumption
  k_with "of"=>apply Lx.l347<;>assumption
  k_with "of"=>apply Lx.l563<;>assumption
  k_with "of"=>apply Lx.l564<;>assumption
  k_with "oltI"=>apply Lx.l438<;>assumption
  k_with "oltI"=>apply Lx.l466<;>assumption
  k_with "of"=>apply Lx.l515<;>assumption
  trivial
theorem four {g h:Heap} {L:Addr} {a b c d x y:Addr×Obj} (N:News g L h [a,b,c,d,x,y]):News g L h ([a,b,c,d]++[x,y]):=N
theorem offFour {a b c d:Addr×Obj} {P cP:Addr} (h1 : @Ne Nat a.1 P) (h2 : @Ne Nat b.1 P) (h3 : @Ne Nat c.1 P) (h4 : @Ne Nat d.1 P) (k1 : @Ne Nat a.1 cP) (k2 : @Ne Nat b.1 cP) (k3 : @Ne Nat c.1 cP) (k4 : @Ne Nat d.1 cP):∀ q∈[a,b,c,d],q.1≠P∧q.1≠cP :=
  List.forall_mem_cons.mpr ⟨⟨h1,k1⟩,List.forall_mem_cons.mpr ⟨⟨h2,k2⟩,List.forall_mem_cons.mpr ⟨⟨h3,k3⟩,List.forall_mem_cons.mpr ⟨⟨h4,k4⟩,List.forall_mem_nil _⟩⟩⟩⟩
theorem ltFour {a b c d:Addr×Obj} {P f c':Addr} (h:∀ q∈[a,b,c,d],q.1 < f∧q.1≠c') (l2 : c' < f∧P < f) : a.1 < f∧b.1 < f∧c.1 < f∧d.1 < f∧P < f∧c' < f :=
  ⟨(h _ (.head _)).1,(h _ (.tail _ (.head _))).1,(h _ (.tail _ (.tail _ (.head _)))).1,(h _ (.tail _ (.tail _ (.tail _ (.head _))))).1,l2.2,l2.1⟩
theorem lenFit {xs:List Value} {n:Nat} (h : xs.length=n):(((xs.toArray.size:Nat):Int))=((n:Nat):Int):=by simp [h]
theorem lenMax {n:Nat} (h : n≤3):((n:Nat):Int)≤16384:=by omega
example:True:=by
  k_with "call builtin:len"=>((k_here;(with_reducible show wpAny _ _ (call (Value.builtin "len") [Value.ref _]) _ _ _);k_dflt (refine' kun_lenL ?kwk1 (lenFit (by with_reducible assumption)) ?kwk3 ?_;(case kwk1=>exact News.isList (by k_asm) (by k_mem));(case kwk3=>exact lenMax (by with_reducible assumption));k_whole)))
  k_with "truthy ref"=>((k_here;k_dflt (refine' kgr_truthy ?kwN ?kwhm ?kwhc ?kwhd ?kwhfit ?_;(case kwN=>k_asm);(case kwhm=>k_mem);(case kwhc=>rfl);(case kwhd=>rfl);(case kwhfit=>exact Nat.lt_of_le_of_lt (show List.length _≤3 by assumption) (by decide)))))
  k_with "exec FunctionDef"=>((k_here;(rename Halt=>zqbkrhs9);refine Stopped.go ?_))
  k_with "call ref"=>((k_here;(with_reducible show wpAny _ _ (call (Value.ref _) [Value.int _ _,Value.int _ _]) _ _ _);(rename Fr _ _ _ _=>zqbksF9);(rename News _ _ _ _=>zqbksN9);(rename DnQ _ _ _ _ _=>zqbksH9);k_dflt (refine' dnCast _ _ rfl rfl (zqbksH9 ?kwdp ?kwun ?kwhf ?kwhke ?kwB ?kwX ?kwT ?kwe1 ?kwe2 ?kwd1 ?kwd2 ?kwd3 ?kwhI zqbksF9 zqbksN9 ?_));k_dflt (walk_at "dn_fill")))
  k_with "dn_fill"=>(((case kwdp=>((k_extra "s1");(try dsimp only);omega));(case kwun=>((k_extra "s6");(try dsimp only);omega));(case kwhf=>first | exact rfl | with_reducible assumption);(case kwhke=>first | exact rfl | with_reducible assumption);(case kwB=>k_asm);(case kwX=>k_asm);(case kwT=>k_asm);(case kwe1=>with_reducible assumption);(case kwe2=>assumption);(case kwd1=>with_reducible assumption);(case kwd2=>with_reducible assumption);(case kwd3=>with_reducible assumption);(case kwhI=>with_reducible assumption);(rename Fr _ _ _ _=>zqbktF8);(rename News _ _ _ _=>zqbktN8);clear zqbktF8 zqbktN8;intro zqbkth' zqbkttk' zqbktt' zqbktF' zqbktN';(try dsimp only)))
  trivial
noncomputable def DTab (x:Addr) (nn:Nat) (xs:List Value) (mv:List (Addr×Obj)):Prop:=∃ mv0,mv=(x,{ cls:=.type "list",data:=.seq xs.toArray nn })::mv0∧Tab1 107 177 4 (ofString "_digits2int.<locals>.inner") mv0∧AllNe x mv0
theorem d2iN:∀ (x:Addr) (nn n:Nat) (xs:List Value) (bs:List Int) (V:Int) (t u:Tok),@Ne Nat x 107→n≤3→xs.length≤3→IntsAre xs bs →
    (Fct ((!xs.isEmpty)=false)∧V=0)∨(Fct ((!xs.isEmpty)=true)∧xs.length=n∧DnQ n 0 n bs V) →
    sM 112 8 [.ref x,.int 10 u] nPr (PInt V) (DTab x nn xs) (Tab1 107 177 4 (ofString "_digits2int.<locals>.inner")):=by
  intro x nn n xs bs V t u
  intros hx hn hxs hI hc
  k_extra "r16"
  intros B F Nm hO X T hf hke hdp hun hpre hret
  refine wpAny_call ?_
  ((first | refine exE hO ?_ | refine aE hO ?_);clear hO;intro uo4;intro zz;k_extra "e";intro zo5;intro zz;subst zo5;k_extra "e";intro zo6;intro hne;(first | refine exE zo6 ?_ | refine aE zo6 ?_);clear zo6;intro oP;intro zz;k_extra "e";intro cP;intro zz;k_extra "e";intro ocP;intro zz;k_extra "e";intro zo7;intro hst;subst zo7)
  (replace hne:=hne;simp only [AllNe,and_true] at hne)
  k_dflt refine' enterCM (binds:=[(ofString "digits",.ref x),(ofString "n",.int 10 u)]) B F Nm X T rfl hf hke ?k6 ?k7 ?k8 ?k9 ?kB ?kD ?c2 ?c3 ?c4 ?_
  walk_at "m_fillC"
  clear F X T B hf hke
  intro g L' h₁ tk₁ cells hg F N Y B X T hlt hsz
  ((first | refine exE (CellsAre.three Y) ?_ | refine aE (CellsAre.three Y) ?_);intro o1;intro zz;k_extra "e";intro o2;intro zz;k_extra "e";intro o3;intro zz;k_extra "e";intro hE;intro zz;k_extra "e";intro d1;intro zz;k_extra "e";intro d2;intro d3)
  subst hE;clear Y;(try simp only [List.cons_append,List.nil_append] at N);(try dsimp only)
  have C:=codeHd_of_K (c:=111) (P:=107) X (by kernel_rfl)
  replace d1 : o1.data=.cell none:=d1
  replace d2 : o2.data=.cell (some (.int 10 u)):=d2
  replace d3 : o3.data=.cell (some (.ref x)):=d3
  replace F:Fr g L' h₁ (fun y=>none):=F
  k_lt hlt
  have hs:Halt:=.mk
  k_steps
  (rename Halt=>hs9);clear hs9
  unfold Stopped
  k_dflt (refine' nestDef_K ?d0 ?k0 ?a0 ?_;(case d0=>exact rfl);(case k0=>exact rfl);(case a0=>exact rfl))
  (rename Fr _ _ _ _=>F5);(rename News _ _ _ _=>N5)
  k_dflt (refine' nestTab F5 (four N5) T C hst ?off rfl rfl rfl ?cl ?_;(case cl=>exact rfl);(case off=>(refine' offFour ?_ ?_ ?_ ?_ ?_ ?_ ?_ ?_<;>(dsimp only;omega))))
  clear F5 N5
  intro f' c' oc' vs' t' ct' dc' h2 tk2 F2 N2 e1 e2 l2 l3
  have l4:=ltFour l2 l3
  have l5:Fct (@Ne Nat (L'+1+1+1) c'):=⟨(l2 _ (.head _)).2⟩
  clear l2 l3
  (replace l4:=l4;dsimp only at l4)
  ((replace N2:=N2;simp only [List.cons_append,List.nil_append] at N2))
  (refine or2E hc ?alo1_0 ?alo1_1;(case' alo1_1=>(clear hc;intro zo2;(first | refine exE zo2 ?_ | refine aE zo2 ?_);clear zo2;intro ha;intro zz;k_extra "e";intro hn2;intro H));(case' alo1_0=>(clear hc;intro zo3;(first | refine exE zo3 ?_ | refine aE zo3 ?_);clear zo3;intro ha;intro hV)))
  · k_steps
    k_extra "r17"
    subst hg
    k_extra "r19"
    (case c1=>k_mem)
    (case c2=>k_mem)
    exact pint_of hV.symm
  · k_steps
    k_extra "r17"
    subst hg
    k_extra "r19"
    (case c1=>k_mem)
    (case c2=>k_mem)
    exact pint_of rfl
theorem dnL (i:Nat) (bs:List Int) (V:Int) (h : i < bs.length) (hl : i < 4) (e : bs.getD i 0=V):DnQ 1 (i:Int) ((i:Int)+1) bs V:=e ▸ dnLeaf i bs (by omega) (by omega)
theorem d2i0 (x:Addr) (nn:Nat) (t u:Tok) (hx : @Ne Nat x 107):sM 112 8 [.ref x,.int 10 u] nPr (PInt (0)) (fun mv=>∃ mv0,mv=(x,{ cls:=.type "list",data:=.seq #[] nn })::mv0∧Tab1 107 177 4 (ofString "_digits2int.<locals>.inner") mv0∧AllNe x mv0) (Tab1 107 177 4 (ofString "_digits2int.<locals>.inner")) :=
  d2iN x nn 0 [] [] 0 t u hx (by decide) (by decide) .nil (.inl ⟨⟨rfl⟩,rfl⟩)
theorem d2i1 (x:Addr) (nn:Nat) (b0 :Int) (t0:Tok) (t u:Tok) (hx : @Ne Nat x 107):sM 112 8 [.ref x,.int 10 u] nPr (PInt (b0)) (fun mv=>∃ mv0,mv=(x,{ cls:=.type "list",data:=.seq #[.int b0 t0] nn })::mv0∧Tab1 107 177 4 (ofString "_digits2int.<locals>.inner") mv0∧AllNe x mv0) (Tab1 107 177 4 (ofString "_digits2int.<locals>.inner")) :=
  d2iN x nn 1 [.int b0 t0] [b0] b0 t u hx (by decide) (show 1≤3 by decide) (.cons _ _ .nil) (.inr ⟨⟨rfl⟩,rfl,dnL 0 [b0] b0 (show 0 < 1 by decide) (by decide) rfl⟩)
theorem d2i2 (x:Addr) (nn:Nat) (b0 b1:Int) (t0:Tok) (t1:Tok) (q0 : 0≤b0∧b0 < 1024) (q1 : 0≤b1∧b1 < 1024) (t u:Tok) (hx : @Ne Nat x 107):sM 112 8 [.ref x,.int 10 u] nPr (PInt (b1*1024+b0)) (fun mv=>∃ mv0,mv=(x,{ cls:=.type "list",data:=.seq #[.int b0 t0,.int b1 t1] nn })::mv0∧Tab1 107 177 4 (ofString "_digits2int.<locals>.inner") mv0∧AllNe x mv0) (Tab1 107 177 4 (ofString "_digits2int.<locals>.inner")) :=
  d2iN x nn 2 [.int b0 t0,.int b1 t1] [b0,b1] (b1*1024+b0) t u hx (by decide) (show 2≤3 by decide) (.cons _ _ (.cons _ _ .nil)) (.inr ⟨⟨rfl⟩,rfl,dnNode0 [b0,b1] b1 b0 (shl_ok q1.1 (by omega)) (dnL 0 [b0,b1] b0 (show 0 < 2 by decide) (by decide) rfl) (dnL 1 [b0,b1] b1 (show 1 < 2 by decide) (by decide) rfl)⟩)
theorem d2i3 (x:Addr) (nn:Nat) (b0 b1 b2:Int) (t0:Tok) (t1:Tok) (t2:Tok) (q0 : 0≤b0∧b0 < 1024) (q1 : 0≤b1∧b1 < 1024) (q2 : 0≤b2∧b2 < 1024) (t u:Tok) (hx : @Ne Nat x 107):sM 112 8 [.ref x,.int 10 u] nPr (PInt ((b2*1024+b1)*1024+b0)) (fun mv=>∃ mv0,mv=(x,{ cls:=.type "list",data:=.seq #[.int b0 t0,.int b1 t1,.int b2 t2] nn })::mv0∧Tab1 107 177 4 (ofString "_digits2int.<locals>.inner") mv0∧AllNe x mv0) (Tab1 107 177 4 (ofString "_digits2int.<locals>.inner")) :=
  d2iN x nn 3 [.int b0 t0,.int b1 t1,.int b2 t2] [b0,b1,b2] ((b2*1024+b1)*1024+b0) t u hx (by decide) (show 3≤3 by decide) (.cons _ _ (.cons _ _ (.cons _ _ .nil))) (.inr ⟨⟨rfl⟩,rfl,dnNode3 [b0,b1,b2] (b2*1024+b1) b0 (shl_ok (by omega) (by omega)) (dnL 0 [b0,b1,b2] b0 (show 0 < 3 by decide) (by decide) rfl) (dnNode1 [b0,b1,b2] b2 b1 (shl_ok q2.1 (by omega)) (dnL 1 [b0,b1,b2] b1 (show 1 < 3 by decide) (by decide) rfl) (dnL 2 [b0,b1,b2] b2 (show 2 < 3 by decide) (by decide) rfl))⟩)
example:True:=by
  k_with "oltN"=>apply Lx.l213<;>assumption
  k_with "oleN"=>apply Lx.l443
  k_with "of"=>apply Lx.l421<;>assumption
  k_with "oleN"=>apply Lx.l304<;>assumption
  k_with "oeqN"=>apply Lx.l156<;>assumption
  k_with "oeqN"=>apply Lx.l196<;>assumption
  k_with "oleN"=>apply Lx.l172<;>assumption
  k_with "oltN"=>apply Lx.l402
  k_with "ox"=>apply Lx.l357<;>assumption
  k_with "oeqN"=>apply Lx.l250<;>assumption
  k_with "oleN"=>apply Lx.l403<;>assumption
  trivial
noncomputable def Mt (f : Str → Nat → Bool) : List Str → List Nat → Prop
  | [],cs=>cs=[]
  | y::ps,cs=>if (y == ofString "many")=true then ∃ a b,cs=a++b∧Mt f ps b else ∃ c b,cs=c::b∧f y c=true∧Mt f ps b
theorem mt_star {f:Str→Nat→Bool} {y:Str} {ps:List Str} (h:(y == ofString "many")=true) (l:List Nat):Mt f (y::ps) l↔∃ a b,l=a++b∧Mt f ps b:=by rw [Mt,if_pos h]
theorem mt_one {f:Str→Nat→Bool} {y:Str} {ps:List Str} (h:(y == ofString "many")=false) (l:List Nat):Mt f (y::ps) l↔∃ c b,l=c::b∧f y c=true∧Mt f ps b:=by rw [Mt,if_neg (by rw [h];exact Bool.false_ne_true)]
theorem foldl_mt (f:Str→Nat→Bool) (cs:List Nat) (ps:List Str):∀ R:Nat→Bool,(ps.foldl (rStep f cs) R) cs.length=true↔∃ j,j≤cs.length∧R j=true∧Mt f ps (cs.drop j):=by
  induction ps with
  | nil =>
    intros R
    constructor
    · intros h;exact ⟨cs.length,Nat.le_refl _,h,by show cs.drop cs.length=[];simp⟩
    · rintro ⟨j, hj, h, hm⟩
      have hm' : cs.drop j=[]:=hm
      have : j=cs.length:=by have:=congrArg List.length hm';simp at this;omega
      subst this;exact h
  | cons y ps ih =>
    intros R
    rw [List.foldl_cons,ih]
    cases hy:(y == ofString "many") with
    | true =>
      have er:∀ j,rStep f cs R y j=(decide (j≤cs.length) && (List.range (j+1)).any R):=fun j=>by unfold rStep;rw [if_pos hy]
      constructor
      · rintro ⟨j, hj, h, hm⟩
        rw [er] at h
        simp only [Bool.and_eq_true,decide_eq_true_eq,List.any_eq_true,List.mem_range] at h
        obtain ⟨_,i,hi,hR⟩:=h
        refine ⟨i,by omega,hR,(mt_star hy _).mpr ⟨(cs.drop i).take (j - i),cs.drop j,?_,hm⟩⟩
        have : cs.drop j=(cs.drop i).drop (j - i):=by rw [List.drop_drop];congr 1;omega
        rw [this,List.take_append_drop]
      · rintro ⟨i, hi, hR, hm⟩
        obtain ⟨a,b,e,hm⟩:=(mt_star hy _).mp hm
        have hl:=congrArg List.length e
        simp at hl
        refine ⟨i+a.length,by omega,?_,?_⟩
        · rw [er]; simp only [Bool.and_eq_true, decide_eq_true_eq, List.any_eq_true, List.mem_range]
          exact ⟨by omega,i,by omega,hR⟩
        · have : cs.drop (i + a.length) = b := by rw [← List.drop_drop, e]; simp
          rw [this];exact hm
    | false =>
      have er:∀ j,rStep f cs R y j=(decide (1≤j) && R (j - 1) && decide (j - 1 < cs.length) && f y (cs.getD (j - 1) 0)):=fun j=>by unfold rStep;rw [if_neg (by rw [hy];exact Bool.false_ne_true)]
      constructor
      · rintro ⟨j, hj, h, hm⟩
        rw [er] at h
        simp only [Bool.and_eq_true,decide_eq_true_eq] at h
        obtain ⟨⟨⟨h1,h2⟩,h3⟩,h4⟩:=h
        refine ⟨j - 1,by omega,h2,(mt_one hy _).mpr ⟨cs.getD (j - 1) 0,cs.drop j,?_,h4,hm⟩⟩
        rw [List.drop_eq_getElem_cons h3,List.getD_eq_getElem?_getD,List.getElem?_eq_getElem h3]
        have : j - 1+1=j:=by omega
        rw [this];rfl
      · rintro ⟨i, hi, hR, hm⟩
        obtain ⟨c,b,e,hf,hm⟩:=(mt_one hy _).mp hm
        have hl:=congrArg List.length e
        simp at hl
        have hlt : i < cs.length:=by omega
        rw [List.drop_eq_getElem_cons hlt] at e
        obtain ⟨e1,e2⟩:=List.cons.inj e
        refine ⟨i+1,hlt,?_,?_⟩
        · rw [er, Nat.add_sub_cancel]
          simp only [Bool.and_eq_true,decide_eq_true_eq]
          refine ⟨⟨⟨by omega,hR⟩,hlt⟩,?_⟩
          rw [List.getD_eq_getElem?_getD,List.getElem?_eq_getElem hlt,e1];exact hf
        · rw [e2];exact hm
theorem reach_mt (f:Str→Nat→Bool) (cs:List Nat) (ps:List Str) : reach f cs ps cs.length=true↔Mt f ps cs:=by
  unfold reach
  rw [foldl_mt]
  constructor
  · rintro ⟨j, _, h, hm⟩
    have : j=0:=by simpa using h
    subst this;exact hm
  · intros h;exact ⟨0,Nat.zero_le _,rfl,h⟩
noncomputable def insF (rest:List Nat) (c:Nat):Bool :=
  match rest with
  | [a,b,d]=>decide (a≤c) && decide (c≤d)
  | r=>r.any fun x=>x == c
noncomputable def signL (l:List Nat) (c:Nat):Bool :=
  match l with
  | [97,110,121]=>true
  | [46]=>true
  | 91::94::r=>!(insF r.dropLast c)
  | 91::r=>insF r.dropLast c
  | r=>r.getLast? == some c
noncomputable def signF (y:Str) (c:Nat):Bool:=signL y.cps.toList c
noncomputable def sPa : Seg → Str
  | .star=>many
  | .ques=>anyS
  | .sign c=>⟨#[c]⟩
  | .cls neg ds=>⟨(91::((if neg then [94] else [])++ds++[93])).toArray⟩
  | .rng neg p q=>if p≤q then ⟨(91::((if neg then [94] else [])++[p,45,q]++[93])).toArray⟩ else if neg then ⟨#[46]⟩ else ⟨#[40,63,33,41]⟩
noncomputable def segB : Seg → Nat → Bool
  | .star,_=>true
  | .ques,_=>true
  | .sign d,c=>d == c
  | .cls neg ds,c=>(ds.any fun x=>x == c) != neg
  | .rng neg p q,c=>(decide (p≤c) && decide (c≤q)) != neg
theorem signF_seg {g:Seg} (hg : g.ok) (hs : g≠.star) {c:Nat} (hc : 47≤c) : signF (sPa g) c=segB g c:=by
  cases g with
  | star=>exact absurd rfl hs
  | ques => show signL anyS.cps.toList c = true
            have e : anyS.cps.toList=[97,110,121]:=by decide +kernel
            rw [e];rfl
  | sign d =>
    obtain ⟨h1,h2⟩:=hg
    show signL [d] c=(d == c)
    unfold signL
    split
    · rename_i h;simp at h
    · rename_i h;simp at h;omega
    · rename_i h;simp at h
    · rename_i h;simp at h;omega
    · simp [eq_comm]
  | cls neg ds =>
    obtain ⟨h1,h2⟩:=hg
    match ds,h1,h2 with
    | [a],_,h2 =>
      have ha:=h2 a (by simp)
      cases neg with
      | false =>
        show signL [91,a,93] c=_
        unfold signL
        split
        · rename_i h;simp at h
        · rename_i h;simp at h
        · rename_i h;simp at h;omega
        · rename_i h;simp at h;subst h;simp [insF,segB]
        · rename_i h;simp at h
      | true =>
        show signL [91,94,a,93] c=_
        simp [signL,insF,segB]
    | [a,b],_,h2 =>
      have ha:=h2 a (by simp)
      cases neg with
      | false =>
        show signL [91,a,b,93] c=_
        unfold signL
        split
        · rename_i h;simp at h
        · rename_i h;simp at h
        · rename_i h;simp at h;omega
        · rename_i h;simp at h;subst h;simp [insF,segB]
        · rename_i h;simp at h
      | true =>
        show signL [91,94,a,b,93] c=_
        simp [signL,insF,segB]
  | rng neg p q =>
    obtain ⟨h1,h2⟩:=hg
    by_cases hpq : p≤q
    · cases neg with
      | false =>
        show signF (if p≤q then _ else _) c=_
        rw [if_pos hpq]
        show signL [91,p,45,q,93] c=_
        unfold signL
        split
        · rename_i h;simp at h
        · rename_i h;simp at h
        · rename_i h;simp at h;omega
        · rename_i h;simp at h;subst h;simp [insF,segB]
        · rename_i h;simp at h
      | true =>
        show signF (if p≤q then _ else _) c=_
        rw [if_pos hpq]
        show signL [91,94,p,45,q,93] c=_
        simp [signL,insF,segB]
    · cases neg with
      | false =>
        show signF (if p≤q then _ else _) c=_
        rw [if_neg hpq]
        k_extra "r20"
        show ([40,63,33,41].getLast? == some c)=((decide (p≤c) && decide (c≤q)) != false)
        rw [hz];simp;omega
      | true =>
        show signF (if p≤q then _ else _) c=_
        rw [if_neg hpq]
        k_extra "r20"
        show true=((decide (p≤c) && decide (c≤q)) != true)
        rw [hz];rfl
theorem seg_not_many {g:Seg} (hg : g.ok) (hs : g≠.star):(sPa g == ofString "many")=false:=by
  have key : sPa g≠many→(sPa g == ofString "many")=false:=fun h=>by simpa [many] using h
  have e2 : many=⟨[109,97,110,121].toArray⟩:=by decide +kernel
  refine key ?_
  rw [e2]
  cases g with
  | star=>exact absurd rfl hs
  | ques=>show anyS≠_;decide +kernel
  | sign d=>intros e;simp [sPa] at e
  | cls neg ds=>intros e;simp [sPa] at e
  | rng neg p q =>
    intros e
    by_cases hpq : p≤q
    · simp [sPa,hpq] at e
    · cases neg<;>simp [sPa,hpq] at e
theorem mt_seg {g:Seg} (hg : g.ok) (hs : g≠.star) {ps:List Str} {l:List Nat} (hl:∀ c∈l,47≤c):Mt signF (sPa g::ps) l↔∃ c b,l=c::b∧segB g c=true∧Mt signF ps b:=by
  rw [mt_one (seg_not_many hg hs)]
  constructor
  · rintro ⟨c,b,rfl,h,hm⟩;exact ⟨c,b,rfl,by rw [← signF_seg hg hs (hl c (by simp))];exact h,hm⟩
  · rintro ⟨c,b,rfl,h,hm⟩;exact ⟨c,b,rfl,by rw [signF_seg hg hs (hl c (by simp))];exact h,hm⟩
noncomputable def Sm : List Seg → List Nat → Prop
  | [],cs=>cs=[]
  | .star::gs,cs=>∃ a b,cs=a++b∧Sm gs b
  | g::gs,cs=>∃ c b,cs=c::b∧segB g c=true∧Sm gs b
theorem sm_one {g:Seg} (hs : g≠.star) {gs:List Seg} {l:List Nat}:Sm (g::gs) l↔∃ c b,l=c::b∧segB g c=true∧Sm gs b:=by
  cases g<;>first | exact absurd rfl hs | exact Iff.rfl
theorem mt_sm {gs:List Seg} (hg:∀ g∈gs,g.ok):∀ {l:List Nat},(∀ c∈l,47≤c)→(Mt signF (gs.map sPa) l↔Sm gs l):=by
  induction gs with
  | nil=>intros l _;exact Iff.rfl
  | cons g gs ih =>
    intros l hl
    have ih':∀ {l:List Nat},(∀ c∈l,47≤c)→(Mt signF (gs.map sPa) l↔Sm gs l):=fun {l} h=>ih (fun g h=>hg g (.tail _ h)) h
    by_cases hs : g=.star
    · subst hs
      rw [List.map_cons,mt_star (by show (many == _)=true;simp [many])]
      show _↔∃ a b,l=a++b∧Sm gs b
      constructor
      · rintro ⟨a,b,rfl,h⟩;exact ⟨a,b,rfl,(ih' fun c h=>hl c (by simp [h])).mp h⟩
      · rintro ⟨a,b,rfl,h⟩;exact ⟨a,b,rfl,(ih' fun c h=>hl c (by simp [h])).mpr h⟩
    · rw [List.map_cons, mt_seg (hg g (.head _)) hs hl, sm_one hs]
      constructor
      · rintro ⟨c,b,rfl,h1,h⟩;exact ⟨c,b,rfl,h1,(ih' fun c h=>hl c (by simp [h])).mp h⟩
      · rintro ⟨c,b,rfl,h1,h⟩;exact ⟨c,b,rfl,h1,(ih' fun c h=>hl c (by simp [h])).mpr h⟩
noncomputable def NoTwo : List Seg → Bool
  | .star::.star::_=>false
  | _::gs=>NoTwo gs
  | []=>true
theorem step_seg {g:Seg} (h : g≠.star) (ps:List Str) : g.step ps=ps++[sPa g]:=by
  cases g with
  | star=>exact absurd rfl h
  | ques=>rfl
  | sign c=>rfl
  | cls neg ds=>rfl
  | rng neg p q=>rfl
example:True:=by
  k_with "oand"=>apply Lx.l85<;>assumption
  k_with "ox"=>apply Lx.l10<;>assumption
  k_with "oleN"=>apply Lx.l408<;>assumption
  k_with "oleN"=>apply Lx.l345<;>assumption
  k_with "oeqN"=>apply Lx.l57<;>assumption
  k_with "oltN"=>apply Lx.l386<;>assumption
  trivial
section
variable {h₀ h h':Heap} {L:Addr} {m:Str→Option Value} {mv mv' all rest pre as:List (Addr×Obj)}
theorem allNeOf {d : Addr} : ∀ {l : List (Addr × Obj)}, (∀ p ∈ l, p.1 ≠ d) → AllNe d l
  | [],_=>trivial
  | p::r,h=>⟨h p (.head _),allNeOf fun q hq=>h q (.tail _ hq)⟩
theorem offOf : ∀ {rest : List (Addr × Obj)}, (∀ q ∈ rest, ∀ p ∈ mv, p.1 ≠ q.1) → OffMv mv rest
  | [],_=>trivial
  | q::r,h=>⟨allNeOf (h q (.head _)),offOf fun x hx=>h x (.tail _ hx)⟩
theorem apart_off (N:News h₀ L h all) (hmv:∀ p∈mv,TabLike p.2∧p∈all) (hr:∀ q∈rest,Apart q.2∧q∈all):∀ q∈rest,∀ p∈mv,p.1≠q.1:=fun q hq p hp e=>by
  have h1:=(N p (hmv p hp).2).1
  have h2:=(N q (hr q hq).2).1
  rw [e,h2] at h1
  exact apart_ne (hr q hq).1 (hmv p hp).1 (Option.some.inj h1)
theorem newsMid {q:Addr×Obj} {l:List (Addr×Obj)} (N:News h₀ L h (q::(l++as))):News h₀ L h (l++q::as):=fun p hp=>N p (by
  rcases List.mem_append.mp hp with hp | hp
  · exact .tail _ (List.mem_append_left _ hp)
  · rcases List.mem_cons.mp hp with rfl | hp
    · exact .head _
    · exact .tail _ (List.mem_append_right _ hp))
theorem newsPart {l:List (Addr×Obj)} (N:News h₀ L h (l++as)) (hs:∀ p∈rest,p∈l):News h₀ L h (rest++as):=fun p hp=>N p (by
  rcases List.mem_append.mp hp with hp | hp
  · exact List.mem_append_left _ (hs p hp)
  · exact List.mem_append_right _ hp)
end
theorem callT {f : Addr} {D τ : Nat} {vs : List Value} {R : Obj → Prop} {O O' : List (Addr × Obj) → Prop} (spec : SpecT f D vs τ (PNew R) O O')
    {prog:Program} {w:World} {p:Program} {loose:List Str} {mean:ExcName→Option Value} {mg mb:Str→Option Value} {A:Around} {env:Env} {outer:List Env} {A₀:Around} {base h₀:Heap} {L:Addr} {m:Str→Option Value} {s:Shared} {Q E:Value→Shared→Prop} {pre mv as:List (Addr×Obj)}
    (B:Below A₀ base outer h₀) (F:Fr h₀ L s.heap m) (N:News h₀ L s.heap (pre++(mv++as))) (hO:O mv) (off:∀ q∈pre++as,∀ p∈mv,p.1≠q.1) (X:(hd.heap_1 w.params).In h₀) (T:Top p loose mean mg mb h₀) (G:AllBare s.gens)
    (c1:A.handled=none) (c2:A.frames=some (env::outer)) (c3 : env.frame=some L) (c4 : env.scope.kind=.function) (hd1:A.depth+D < 500) (hu:A.units+10*D < 5000) (hτ : τ≤s.toks)
    (k:∀ a o h' g' d' tk' mv',Fr h₀ L h' m→News h₀ L h' ((a,o)::(pre++(mv'++as)))→O' mv'→R o→AllBare g'→(∀ p∈pre++as,p.1≠a)→Q (.ref a) { heap:=h',gens:=g',drawn:=d',toks:=tk',os:=s.os }) :
    wpAny (model prog w) A (call (.ref f) vs) Q E s:=by
  have Nm:News h₀ L s.heap mv:=fun p hp=>N p (List.mem_append_right _ (List.mem_append_left _ hp))
  have Nr:News h₀ L s.heap (pre++as):=fun p hp=>N p (by
    rcases List.mem_append.mp hp with hp | hp
    · exact List.mem_append_left _ hp
    · exact List.mem_append_right _ (List.mem_append_right _ hp))
  refine spec B F Nm hO X T G c1 c2 c3 c4 hd1 hu hτ fun v h' g' d' tk' mv' st hz out hO' hG hp=>?_
  obtain ⟨a,o,rfl,hn,hg,hR⟩:=hp
  have ho:=offOf off
  have N2:=newsM F Nm Nr ho st (MvOut.cons hn hg out)
  have ha:=neM hn Nr ho
  refine k a o h' g' d' tk' mv' (frM F Nm st) (fun p hp=>N2 p ?_) hO' hR hG (fun p hp e=>allNe_mem ha (e ▸ List.mem_map_of_mem hp))
  rcases List.mem_cons.mp hp with rfl | hp
  · exact .head _
  · refine .tail _ ?_
    rcases List.mem_append.mp hp with hp | hp
    · exact List.mem_append_right _ (List.mem_append_left _ hp)
    · rcases List.mem_append.mp hp with hp | hp
      · exact List.mem_append_left _ hp
      · exact List.mem_append_right _ (List.mem_append_right _ hp)
inductive Made (ts : Tok) : List Value → List (Addr × Obj) → List (List Seg) → Prop
  | nil:Made ts [] [] []
  | snoc {ys:List Value} {as:List (Addr×Obj)} {gs:List (List Seg)} (a:Addr) (its:Array Value) (n:Nat) (g:List Seg) (h:Made ts ys as gs) (x:Its ts its.toList (sgP g)):Made ts (ys++[.ref a]) ((a,W.listOf its n)::as) (gs++[g])
theorem Made.len {ts:Tok} {ys:List Value} {as:List (Addr×Obj)} {gs:List (List Seg)} (h:Made ts ys as gs) : ys.length=gs.length:=by
  induction h with
  | nil=>rfl
  | snoc _ _ _ _ _ _ ih=>simp [ih]
theorem Made.apart {ts:Tok} {ys:List Value} {as:List (Addr×Obj)} {gs:List (List Seg)} (h:Made ts ys as gs):∀ q∈as,Apart q.2:=by
  induction h with
  | nil=>intros q hq;exact absurd hq List.not_mem_nil
  | snoc a its n g _ _ ih =>
    intros q hq
    rcases List.mem_cons.mp hq with rfl | hq
    · exact apart_list
    · exact ih q hq
theorem Made.get {ts:Tok} {ys:List Value} {as:List (Addr×Obj)} {gs:List (List Seg)} (h:Made ts ys as gs):∀ {i:Nat} {v:Value},ys[i]?=some v→∃ a its n g,v=.ref a∧(a,W.listOf its n)∈as∧gs[i]?=some g∧Its ts its.toList (sgP g):=by
  induction h with
  | nil=>intros i v e;simp at e
  | @snoc ys as gs a its n g h x ih =>
    intros i v e
    have hl:=h.len
    rcases Nat.lt_or_ge i ys.length with hi | hi
    · rw [List.getElem?_append_left hi] at e
      obtain ⟨a2,its2,n2,g2,e1,e2,e3,e4⟩:=ih e
      exact ⟨a2,its2,n2,g2,e1,.tail _ e2,by rw [List.getElem?_append_left (by omega)];exact e3,e4⟩
    · rw [List.getElem?_append_right hi] at e
      have h0 : i - ys.length=0:=by
        rcases Nat.eq_zero_or_pos (i - ys.length) with q | q
        · exact q
        · rw [List.getElem?_eq_none (by simp;omega)] at e;cases e
      rw [h0] at e
      simp at e
      exact ⟨a, its, n, g, e.symm, .head _, by rw [List.getElem?_append_right (by omega)]; have : i - gs.length = 0 := by omega
                                               rw [this];rfl,x⟩
theorem Its.strs {ts:Tok} {vs:List Value} {ps:List Str} (h:Its ts vs ps):StrsAre vs ps:=by
  induction h with
  | nil=>exact .nil
  | star _ ih=>exact strsSnoc ih
  | other x t _ _ _ ih=>exact strsSnoc ih
noncomputable def svS (p q r:Nat):List (List Seg) :=
  [[.star,.sign 47,.ques,.ques,.cls false [48+p,48+q]],[.star,.sign 47,.ques,.cls true [48+p,48+q],.ques],[.sign 47,.rng false (48+p) (48+q),.ques,.sign 47,.star],[.sign 47,.rng false (48+q) (48+p),.ques,.sign 47,.star],
   [.star,.sign (48+r),.star],[.star,.sign (48+r),.sign (48+r)],[.sign 47,.sign (48+r),.sign 47,.star],[.sign 47,.cls true [48+p],.star,.cls true [48+q],.sign 47,.star],[.star,.sign 47,.sign (48+q),.star,.sign (48+r)],
   [.star,.rng true (48+q) (48+p)],[.star,.rng true (48+p) (48+q)]]
noncomputable def segStr (g:List Seg):Str:=⟨(sgT g).toArray⟩
theorem app_str (a b:Array Nat):((⟨a⟩:Str)++⟨b⟩)=⟨a++b⟩:=rfl
theorem pats_segs (p q r:Nat) : pats (dgt (p:Int)) (dgt (q:Int)) (dgt (r:Int))=(svS p q r).map segStr:=by
  have e1:ofString "*/??["=⟨#[42,47,63,63,91]⟩:=by decide +kernel
  have e2:ofString "]"=⟨#[93]⟩:=by decide +kernel
  have e3:ofString "*/?[!"=⟨#[42,47,63,91,33]⟩:=by decide +kernel
  have e4:ofString "]?"=⟨#[93,63]⟩:=by decide +kernel
  have e5:ofString "/["=⟨#[47,91]⟩:=by decide +kernel
  have e6:ofString "-"=⟨#[45]⟩:=by decide +kernel
  have e7:ofString "]?/*"=⟨#[93,63,47,42]⟩:=by decide +kernel
  have e8:ofString "*"=⟨#[42]⟩:=by decide +kernel
  have e9:ofString "/"=⟨#[47]⟩:=by decide +kernel
  have e10:ofString "/*"=⟨#[47,42]⟩:=by decide +kernel
  have e11:ofString "/[!"=⟨#[47,91,33]⟩:=by decide +kernel
  have e12:ofString "]*[!"=⟨#[93,42,91,33]⟩:=by decide +kernel
  have e13:ofString "]/*"=⟨#[93,47,42]⟩:=by decide +kernel
  have e14:ofString "*/"=⟨#[42,47]⟩:=by decide +kernel
  have e15:ofString "*[!"=⟨#[42,91,33]⟩:=by decide +kernel
  have ed:∀ n:Nat,dgt (n:Int)=⟨#[48+n]⟩:=fun n=>rfl
  unfold pats
  rw [e1,e2,e3,e4,e5,e6,e7,e8,e9,e10,e11,e12,e13,e14,e15,ed,ed,ed]
  rfl
theorem okD {p:Nat} (h : p < 10) : 48≤48+p∧48+p≤57:=⟨Nat.le_add_right _ _,Nat.add_le_add_left (Nat.le_of_lt_succ h) 48⟩
theorem okS {p:Nat} (h : p < 10):(Seg.sign (48+p)).ok:=⟨Nat.le_trans (by decide) (okD h).1,(okD h).2⟩
theorem okC1 {b:Bool} {p:Nat} (h : p < 10):(Seg.cls b [48+p]).ok:=⟨.inl rfl,List.forall_mem_cons.mpr ⟨okD h,List.forall_mem_nil _⟩⟩
theorem okC2 {b:Bool} {p q:Nat} (h : p < 10) (k : q < 10):(Seg.cls b [48+p,48+q]).ok:=⟨.inr rfl,List.forall_mem_cons.mpr ⟨okD h,List.forall_mem_cons.mpr ⟨okD k,List.forall_mem_nil _⟩⟩⟩
theorem okR {b:Bool} {p q:Nat} (h : p < 10) (k : q < 10):(Seg.rng b (48+p) (48+q)).ok:=⟨okD h,okD k⟩
theorem ok47:(Seg.sign 47).ok:=⟨by decide,by decide⟩
theorem okStar:Seg.star.ok:=True.intro
theorem okQues:Seg.ques.ok:=True.intro
theorem okCons {g:Seg} {l:List Seg} (h : g.ok) (k:∀ s∈l,s.ok):∀ s∈g::l,s.ok:=List.forall_mem_cons.mpr ⟨h,k⟩
theorem okNil:∀ s∈([]:List Seg),s.ok:=List.forall_mem_nil _
theorem sieve_ok {p q r:Nat} (hp : p < 10) (hq : q < 10) (hr : r < 10):∀ g∈svS p q r,(∀ s∈g,s.ok)∧(sgT g).length≤50:=by
  unfold svS
  repeat' (first | exact List.forall_mem_nil _ | exact okNil | (refine okCons ?_ ?_) | exact okStar | exact okQues | exact ok47 | exact okS hr | exact okS hq | exact okS hp | exact okC1 hp | exact okC1 hq | exact okC2 hp hq | exact okR hp hq | exact okR hq hp | (refine List.forall_mem_cons.mpr ⟨And.intro ?_ (Nat.le_of_ble_eq_true rfl),?_⟩))
theorem t57_like {pl pg:Pos} {ps:Array Value} (h:T57 pl pg ps):TabLike (tabObj ps):=by
  refine tabLike_tab ?_
  have ht:=h.tri
  cases ps with
  | mk l =>
    cases l with
    | nil=>exact .inl rfl
    | cons v r =>
      right
      cases v with
      | int x t=>exact ⟨x,t,rfl⟩
      | _=>exact False.elim (by unfold TriplesOk at ht;first | exact ht | simp at ht)
theorem specP_mono {f:Addr} {D:Nat} {vs:List Value} {Pre:Heap→Prop} {Post Post':Heap→Value→Heap→Prop} (x:sP f D vs Pre Post) (k:∀ h v h',Post h v h'→Post' h v h'):sP f D vs Pre Post':=by
  intros prog w p loose mean mg mb A env outer A₀ base h₀ L m s Q E B F X T c1 c2 c3 c4 d u hp hret
  exact x B F X T c1 c2 c3 c4 d u hp fun v h' tk' a b c=>hret v h' tk' a b (k _ _ _ c)
theorem pnew_mono {O O':Obj→Prop} (k:∀ o,O o→O' o) {h h':Heap} {v:Value} (x:PNew O h v h'):PNew O' h v h':=let ⟨a,o,e,l,g,q⟩:=x;⟨a,o,e,l,g,k o q⟩
theorem law_pats (p' q' r':Str) (t u v:Tok) (hp' : p'.length=1) (hq' : q'.length=1) (hr' : r'.length=1):sP 274 2 [.str p' t,.str q' u,.str r' v] nPr (PNew fun o=>∃ vs n,StrsAre vs (pats p' q' r')∧o=W.listOf (List.toArray vs) n) :=
  specP_mono (law_patterns p' q' r' t u v hp' hq' hr') fun _ _ _ x=>pnew_mono (fun _ ⟨vs,n,e,h⟩=>⟨vs,n,h,e⟩) x
theorem t57_nil {pl pg:Pos}:T57 pl pg #[]:=⟨trivial,.inl rfl,.inl rfl⟩
section
open PyProof.Rows.LCg
theorem off3_mid {I C D:Addr} {l as:List (Addr×Obj)} {x:Addr×Obj} (h:Off3 I C D (l++as)) (hx : x.1≠I∧x.1≠C∧x.1≠D):Off3 I C D (l++x::as):=Off3.of fun p hp=>by
  rcases List.mem_append.mp hp with hp | hp
  · exact h.mem p (List.mem_append_left _ hp)
  · rcases List.mem_cons.mp hp with rfl | hp
    · exact hx
    · exact h.mem p (List.mem_append_right _ hp)
theorem off3_set {I C D P:Addr} {l as:List (Addr×Obj)} {o o':Obj} (h:Off3 I C D (l++(P,o)::as)):Off3 I C D (l++(P,o')::as):=Off3.of fun p hp=>by
  rcases List.mem_append.mp hp with hp | hp
  · exact h.mem p (List.mem_append_left _ hp)
  · rcases List.mem_cons.mp hp with rfl | hp
    · exact h.mem (P,o) (List.mem_append_right _ (.head _))
    · exact h.mem p (List.mem_append_right _ (.tail _ hp))
end
noncomputable def starSegs (r:Nat):List Seg:=[.star,.star,.sign (48+r),.star,.star,.star]
theorem star_str (r:Nat):ofString "**"++dgt (r:Int)++ofString "***"=segStr (starSegs r):=by
  have e1:ofString "**"=⟨#[42,42]⟩:=by decide +kernel
  have e2:ofString "***"=⟨#[42,42,42]⟩:=by decide +kernel
  rw [e1,e2]
  rfl
theorem star_ok {r:Nat} (hr : r < 10):(∀ s∈starSegs r,s.ok)∧(sgT (starSegs r)).length≤50:=by
  refine ⟨?_,by simp [starSegs,sgT,Seg.text]⟩
  intros s hs
  simp only [starSegs,List.mem_cons,List.not_mem_nil,or_false] at hs
  rcases hs with rfl | rfl | rfl | rfl | rfl | rfl<;>simp [Seg.ok]<;>omega
theorem sign_many2 (c:Nat):(⟨#[c]⟩:Str)≠many:=by
  intros e
  have e2 : many=⟨#[109,97,110,121]⟩:=by decide +kernel
  rw [e2] at e
  simp at e
theorem step_star {ps:List Str} (h : ps.getLast?≠some many):Seg.star.step ps=ps++[many]:=by
  show (if ps.getLast?=some many then ps else ps++[many])=_
  rw [if_neg h]
theorem step_star2 {ps:List Str} (h : ps.getLast?=some many):Seg.star.step ps=ps:=by
  show (if ps.getLast?=some many then ps else ps++[many])=_
  rw [if_pos h]
theorem star_parts (r:Nat) : sgP (starSegs r)=[many,dgt (r:Int),many]:=by
  have h1:(⟨#[48+r]⟩:Str)≠many:=sign_many2 _
  show Seg.star.step (Seg.star.step (Seg.star.step ((Seg.sign (48+r)).step (Seg.star.step (Seg.star.step [])))))=_
  rw [step_star (ps:=[]) (by simp),step_star2 (ps:=[]++[many]) (by simp)]
  show Seg.star.step (Seg.star.step (Seg.star.step ([many]++[(⟨#[48+r]⟩:Str)])))=_
  rw [step_star (ps:=[many]++[(⟨#[48+r]⟩:Str)]) (by simpa using h1),step_star2 (ps:=[many]++[(⟨#[48+r]⟩:Str)]++[many]) (by simp),step_star2 (ps:=[many]++[(⟨#[48+r]⟩:Str)]++[many]) (by simp)]
  rfl
theorem its_append {ts:Tok} {vs:List Value} {ps:List Str} {x:Str} (h:Its ts vs (ps++[x])):∃ us v,vs=us++[v]∧Its ts us ps∧((x=many∧v=.str many ts)∨(x≠many∧∃ t,v=.str x t)):=by
  generalize e : ps++[x]=qs at h
  cases h with
  | nil=>simp at e
  | @star us qs h =>
    obtain ⟨rfl,e2⟩:=List.append_inj' e rfl
    obtain rfl : x=many:=by simpa using e2
    exact ⟨us,_,rfl,h,.inl ⟨rfl,rfl⟩⟩
  | @other us qs y t hy ht h =>
    obtain ⟨rfl,e2⟩:=List.append_inj' e rfl
    obtain rfl : x=y:=by simpa using e2
    exact ⟨us,_,rfl,h,.inr ⟨hy,t,rfl⟩⟩
theorem its_three {ts:Tok} {vs:List Value} {x:Str} (hx : x≠many) (h:Its ts vs [many,x,many]):∃ t,vs=[.str many ts,.str x t,.str many ts]:=by
  obtain ⟨us,v,rfl,h,h1⟩:=its_append (ps:=[many,x]) h
  obtain ⟨us,v2,rfl,h,h2⟩:=its_append (ps:=[many]) h
  obtain ⟨us,v3,rfl,h,h3⟩:=its_append (ps:=[]) h
  have h0 : us=[]:=by cases us with
    | nil=>rfl
    | cons a r=>have:=StrsAre.length h.strs;simp at this
  subst h0
  rcases h1 with ⟨_,rfl⟩ | ⟨q,_⟩
  · rcases h2 with ⟨q, _⟩ | ⟨_, t, rfl⟩
    · exact absurd q hx
    · rcases h3 with ⟨_, rfl⟩ | ⟨q, _⟩
      · exact ⟨t,rfl⟩
      · exact absurd rfl q
  · exact absurd rfl q
section
variable {prog:Program} {w:World} {A:Around} {E:Value→Shared→Prop} {s:Shared} {Q:Value→Shared→Prop}
theorem ne_same {a b : Addr} {d : PyData} {xs ys : List Addr} (h1 : Reads s.heap (.ref a) d xs) (h2 : Reads s.heap (.ref b) d ys) (sh : SeqAt.shaped d = true) (hu : A.units + 64 < cLine) (e : PyData.eqv d d = true) (h : Q (.bool false) s) :
    wpAny (model prog w) A (compareOp .NotEq (.ref a) (.ref b)) Q E s:=ne_dataH h1 h2 sh sh hu (by rw [e];exact h)
end
theorem shaped_star {r:Nat} (hr : r < 10):SeqAt.shaped (.list [.str many,.str (dgt (r:Int)),.str many])=true:=by
  have hk : r=0∨r=1∨r=2∨r=3∨r=4∨r=5∨r=6∨r=7∨r=8∨r=9:=by omega
  rcases hk with rfl | rfl | rfl | rfl | rfl | rfl | rfl | rfl | rfl | rfl<;>decide +kernel
section
local macro_rules | `(tactic| walk_at $s:str)=>do let k:=Lean.Syntax.mkStrLit ("cut "++s.getString);`(tactic| k_extra $k)
local macro_rules | `(tactic| k_steps)=>`(tactic| repeat' (k_extra "cut k_steps"))
example:True:=by
  k_with "cut execs cons Assign cons"=>(walk_at "execs cons")
  k_with "cut execs cons"=>((k_here;(with_reducible first | (refine consCutV (by assumption) ?_;intro zqkd0yQ9 zqkd0yh9) | (refine consCutN ?_;intro zqkd0yQ8 zqkd0yh8 zqkd0yQ9 zqkd0yh9))))
  k_with "cut x_out"=>(((with_reducible first | refine CutH.next (by assumption) ?_ | refine CutH.ret (by assumption) ?_ | refine CutH.brk (by assumption) ?_ | refine CutH.cont (by assumption) ?_ | refine CutV.go (by assumption) _ _ ?_ | refine CutH.go (by assumption) _ _ ?_);(try dsimp only)))
  k_with "cut k_steps"=>(k_extra "s5")
  trivial
example:True:=by
  k_with "of"=>apply Lx.l144<;>assumption
  k_with "of"=>apply Lx.l194<;>assumption
  k_with "of"=>apply Lx.l107<;>assumption
  k_with "oleI"=>apply Lx.l445
  k_with "oleI"=>apply Lx.l447
  k_with "oltI"=>apply Lx.l223<;>assumption
  k_with "oltI"=>apply Lx.l430<;>assumption
  k_with "oltN"=>apply Lx.l158<;>assumption
  k_with "oltI"=>apply Lx.l584
  k_with "oltI"=>apply Lx.l598
  k_with "oltN"=>apply Lx.l89<;>assumption
  k_with "oeqI"=>apply Lx.l508
  trivial
noncomputable def QA:Str:=ofString "_int2digits.<locals>.inner"
noncomputable def QB:Str:=ofString "_digits2int.<locals>.inner"
noncomputable def tX (mv:List (Addr×Obj)):Prop:=∃ oA cA ocA oB cB ocB,mv=[(100,oA),(cA,ocA),(107,oB),(cB,ocB)]∧TabSt 100 162 4 (ofString "_int2digits.<locals>.inner") oA cA ocA∧TabSt 107 177 4 (ofString "_digits2int.<locals>.inner") oB cB ocB
noncomputable def PDiv (x y:Int):Heap→Value→Heap→Prop:=PNew fun o=>∃ t1 t2,o={ cls:=.type "tuple",data:=.seq #[.int x t1,.int y t2] }
theorem pdiv_of {g h':Heap} {L D:Addr} {all:List (Addr×Obj)} {x y X Y:Int} {t u:Tok} (N:News g L h' all) (hm:(D,({ cls:=.type "tuple",data:=.seq #[.int x t,.int y u] }:Obj))∈all) (e1 : x=X) (e2 : y=Y):PDiv X Y g (.ref D) h' :=
  pnew_of N hm ⟨t,u,by rw [e1,e2]⟩
example:True:=by
  k_with "call ref"=>((k_here;(refine cI (n:=105) (by with_reducible rfl) ?_);k_dflt (refine' (i2dL0 _ _) ?kwB ?kwF ?kwNm ?kwO ?kwX ?kwT ?kwc1 ?kwc2 ?kwc3 ?kwc4 ?kwd ?kwu ?kwp ?_;(case kwO=>(exact ⟨_,_,_,rfl,by with_reducible assumption⟩));(case kwNm=>exact nsO (by k_asm) (by lcg_sub));(skip);(case kwB=>k_asm);(case kwF=>k_asm);(case kwX=>k_asm);(case kwT=>k_asm);(case kwc1=>exact rfl);(case kwc2=>exact rfl);(case kwc3=>first | exact rfl | assumption);(case kwc4=>first | exact rfl | assumption);(k_extra "s4");(k_extra "s3");(try (case kwp=>exact True.intro));intro zqcchv' zqcchh' zqcchtk' zqcchmv' zqcchhk' zqcchhz' zqcchhm' zqcchho' zqcchhp';clear zqcchhz';(((first | refine exE zqcchho' ?_ | refine aE zqcchho' ?_);clear zqcchho';intro zqccho';intro zz;k_extra "e";intro zqcchc';intro zz;k_extra "e";intro zqcchoc';intro zz;k_extra "e";intro zqcche';intro zqcchhst');subst zqcche');walk_at "m_usedM")))
  k_with "call ref"=>((k_here;(refine cI (n:=112) (by with_reducible rfl) ?_);k_dflt (refine' (d2i0 _ _ 0 _ ?kwhx) ?kwB ?kwF ?kwNm ?kwO ?kwX ?kwT ?kwc1 ?kwc2 ?kwc3 ?kwc4 ?kwd ?kwu ?kwp ?_;(k_extra "s8");(case kwNm=>exact nsO (by k_asm) (by lcg_sub));((case kwhx=>(show @Ne Nat _ _);(try dsimp only);omega));(case kwB=>k_asm);(case kwF=>k_asm);(case kwX=>k_asm);(case kwT=>k_asm);(case kwc1=>exact rfl);(case kwc2=>exact rfl);(case kwc3=>first | exact rfl | assumption);(case kwc4=>first | exact rfl | assumption);(k_extra "s4");(k_extra "s3");(try (case kwp=>exact True.intro));intro zqcciv' zqccih' zqccitk' zqccimv' zqccihk' zqccihz' zqccihm' zqcciho' zqccihp';clear zqccihz';(((first | refine exE zqcciho' ?_ | refine aE zqcciho' ?_);clear zqcciho';intro zqccio';intro zz;k_extra "e";intro zqccic';intro zz;k_extra "e";intro zqccioc';intro zz;k_extra "e";intro zqccie';intro zqccihst');subst zqccie');walk_at "m_usedM")))
  trivial
noncomputable def dp0_S (t u:Tok):Prop:=sM 119 10 [.int ((0:Nat):Int) t,.int 1000 u] nPr (PDiv ((0:Nat):Int) ((0:Nat):Int)) tX tX
theorem dp0_P:∀ (t u:Tok),dp0_S t u:=by
  intro t u
  k_extra "r16"
  intros B F Nm hO X T hf hke hdp hun hpre hret
  refine wpAny_call ?_
  ((first | refine exE hO ?_ | refine aE hO ?_);clear hO;intro oA;intro zz;k_extra "e";intro cA;intro zz;k_extra "e";intro ocA;intro zz;k_extra "e";intro oB;intro zz;k_extra "e";intro cB;intro zz;k_extra "e";intro ocB;intro zz;k_extra "e";intro zo1;intro zz;subst zo1;k_extra "e";intro stA;intro stB)
  ((k_extra "s2");intro ne1;intro zz;k_extra "e";intro ne2;intro ne3)
  k_dflt refine' enterM (binds:=[(ofString "a",.int ((0:Nat):Int) t),(ofString "b",.int 1000 u)]) B F Nm X T rfl hf hke ?k6 ?k7 ?k8 ?k9 ?kB ?c5 ?c2 ?c3 ?c4 ?_
  walk_at "m_fill"
  clear F X T B hf hke
  intro g L' h₁ hg F N B X T hlt hsz;(try dsimp only)
  k_lt hlt
  k_steps
  k_extra "r21"
  subst hg
  k_extra "r22"
  refine pdiv_of N9 (.head _) ?_ ?_
  all_goals first | omega | (simp only [Int.reduceToNat,Int.reducePow];omega)
theorem dp0:∀ (t u:Tok),sM 119 10 [.int ((0:Nat):Int) t,.int 1000 u] nPr (PDiv ((0:Nat):Int) ((0:Nat):Int)) tX tX:=fun t u=>dp0_P t u
example:True:=by
  k_with "call ref"=>((k_here;(refine cI (n:=105) (by with_reducible rfl) ?_);k_dflt (refine' (i2dL1 _ _ _ (by with_reducible assumption) (by with_reducible assumption)) ?kwB ?kwF ?kwNm ?kwO ?kwX ?kwT ?kwc1 ?kwc2 ?kwc3 ?kwc4 ?kwd ?kwu ?kwp ?_;(case kwO=>(exact ⟨_,_,_,rfl,by with_reducible assumption⟩));(case kwNm=>exact nsO (by k_asm) (by lcg_sub));(skip);(case kwB=>k_asm);(case kwF=>k_asm);(case kwX=>k_asm);(case kwT=>k_asm);(case kwc1=>exact rfl);(case kwc2=>exact rfl);(case kwc3=>first | exact rfl | assumption);(case kwc4=>first | exact rfl | assumption);(k_extra "s4");(k_extra "s3");(try (case kwp=>exact True.intro));intro zqccjv' zqccjh' zqccjtk' zqccjmv' zqccjhk' zqccjhz' zqccjhm' zqccjho' zqccjhp';clear zqccjhz';(((first | refine exE zqccjho' ?_ | refine aE zqccjho' ?_);clear zqccjho';intro zqccjo';intro zz;k_extra "e";intro zqccjc';intro zz;k_extra "e";intro zqccjoc';intro zz;k_extra "e";intro zqccje';intro zqccjhst');subst zqccje');walk_at "m_usedM")))
  k_with "call ref"=>((k_here;(refine cI (n:=112) (by with_reducible rfl) ?_);k_dflt (refine' (d2i1 _ _ _ _ 0 _ ?kwhx) ?kwB ?kwF ?kwNm ?kwO ?kwX ?kwT ?kwc1 ?kwc2 ?kwc3 ?kwc4 ?kwd ?kwu ?kwp ?_;(k_extra "s8");(case kwNm=>exact nsO (by k_asm) (by lcg_sub));((case kwhx=>(show @Ne Nat _ _);(try dsimp only);omega));(case kwB=>k_asm);(case kwF=>k_asm);(case kwX=>k_asm);(case kwT=>k_asm);(case kwc1=>exact rfl);(case kwc2=>exact rfl);(case kwc3=>first | exact rfl | assumption);(case kwc4=>first | exact rfl | assumption);(k_extra "s4");(k_extra "s3");(try (case kwp=>exact True.intro));intro zqcckv' zqcckh' zqccktk' zqcckmv' zqcckhk' zqcckhz' zqcckhm' zqcckho' zqcckhp';clear zqcckhz';(((first | refine exE zqcckho' ?_ | refine aE zqcckho' ?_);clear zqcckho';intro zqccko';intro zz;k_extra "e";intro zqcckc';intro zz;k_extra "e";intro zqcckoc';intro zz;k_extra "e";intro zqccke';intro zqcckhst');subst zqccke');walk_at "m_usedM")))
  k_with "call ref"=>((k_here;(refine cI (n:=91) (by with_reducible rfl) ?_);k_dflt (refine' (div2n1n _ _ _ _ (by first | exact dvB (by with_reducible assumption) | exact dvA (by first | assumption | omega))) ?kwB ?kwF ?kwX ?kwT ?kwc1 ?kwc2 ?kwc3 ?kwc4 ?kwd ?kwu ?kwp ?_;walk_at "m_used")))
  trivial
noncomputable def dp1_S (a:Nat) (t u:Tok):Prop:=∀ (h1 : 1≤a) (h2 : a < 1024),sM 119 10 [.int (a:Int) t,.int 1000 u] nPr (PDiv ((a / 1000:Nat):Int) ((a % 1000:Nat):Int)) tX tX
theorem dp1_P:∀ (a:Nat) (t u:Tok),dp1_S a t u:=by
  intro a t u
  intros h1 h2
  k_extra "r16"
  intros B F Nm hO X T hf hke hdp hun hpre hret
  refine wpAny_call ?_
  ((first | refine exE hO ?_ | refine aE hO ?_);clear hO;intro oA;intro zz;k_extra "e";intro cA;intro zz;k_extra "e";intro ocA;intro zz;k_extra "e";intro oB;intro zz;k_extra "e";intro cB;intro zz;k_extra "e";intro ocB;intro zz;k_extra "e";intro zo2;intro zz;subst zo2;k_extra "e";intro stA;intro stB)
  ((k_extra "s2");intro ne1;intro zz;k_extra "e";intro ne2;intro ne3)
  k_extra "r23"
  walk_at "m_fill"
  clear F X T B hf hke
  intro g L' h₁ hg F N B X T hlt hsz;(try dsimp only)
  k_lt hlt
  k_steps
  k_extra "r21"
  subst hg
  k_extra "r22"
  refine (fun dz=>pdiv_of N9 (.head _) (And.left dz) (And.right dz)) (dq1 (by with_reducible assumption))
theorem dp1:∀ (a:Nat) (t u:Tok) (h1 : 1≤a) (h2 : a < 1024),sM 119 10 [.int (a:Int) t,.int 1000 u] nPr (PDiv ((a / 1000:Nat):Int) ((a % 1000:Nat):Int)) tX tX:=fun a t u h1 h2=>dp1_P a t u h1 h2
example:True:=by
  k_with "call ref"=>((k_here;(refine cI (n:=105) (by with_reducible rfl) ?_);k_dflt (refine' (i2dL2 _ _ _ (by with_reducible assumption) (by with_reducible assumption)) ?kwB ?kwF ?kwNm ?kwO ?kwX ?kwT ?kwc1 ?kwc2 ?kwc3 ?kwc4 ?kwd ?kwu ?kwp ?_;(case kwO=>(exact ⟨_,_,_,rfl,by with_reducible assumption⟩));(case kwNm=>exact nsO (by k_asm) (by lcg_sub));(skip);(case kwB=>k_asm);(case kwF=>k_asm);(case kwX=>k_asm);(case kwT=>k_asm);(case kwc1=>exact rfl);(case kwc2=>exact rfl);(case kwc3=>first | exact rfl | assumption);(case kwc4=>first | exact rfl | assumption);(k_extra "s4");(k_extra "s3");(try (case kwp=>exact True.intro));intro zqccmv' zqccmh' zqccmtk' zqccmmv' zqccmhk' zqccmhz' zqccmhm' zqccmho' zqccmhp';clear zqccmhz';(((first | refine exE zqccmho' ?_ | refine aE zqccmho' ?_);clear zqccmho';intro zqccmo';intro zz;k_extra "e";intro zqccmc';intro zz;k_extra "e";intro zqccmoc';intro zz;k_extra "e";intro zqccme';intro zqccmhst');subst zqccme');walk_at "m_usedM")))
  k_with "call ref"=>((k_here;(refine cI (n:=112) (by with_reducible rfl) ?_);k_dflt (refine' (d2i2 _ _ _ _ _ _ ?kwq0 ?kwq1 0 _ ?kwhx) ?kwB ?kwF ?kwNm ?kwO ?kwX ?kwT ?kwc1 ?kwc2 ?kwc3 ?kwc4 ?kwd ?kwu ?kwp ?_;(k_extra "s8");(case kwNm=>exact nsO (by k_asm) (by lcg_sub));((case kwq0=>exact dvQ (by with_reducible assumption));(case kwq1=>exact dvQ (by with_reducible assumption));(case kwhx=>(show @Ne Nat _ _);(try dsimp only);omega));(case kwB=>k_asm);(case kwF=>k_asm);(case kwX=>k_asm);(case kwT=>k_asm);(case kwc1=>exact rfl);(case kwc2=>exact rfl);(case kwc3=>first | exact rfl | assumption);(case kwc4=>first | exact rfl | assumption);(k_extra "s4");(k_extra "s3");(try (case kwp=>exact True.intro));intro zqccnv' zqccnh' zqccntk' zqccnmv' zqccnhk' zqccnhz' zqccnhm' zqccnho' zqccnhp';clear zqccnhz';(((first | refine exE zqccnho' ?_ | refine aE zqccnho' ?_);clear zqccnho';intro zqccno';intro zz;k_extra "e";intro zqccnc';intro zz;k_extra "e";intro zqccnoc';intro zz;k_extra "e";intro zqccne';intro zqccnhst');subst zqccne');walk_at "m_usedM")))
  trivial
noncomputable def dp2_S (a:Nat) (t u:Tok):Prop:=∀ (h1 : 1024≤a) (h2 : a < 1048576),sM 119 10 [.int (a:Int) t,.int 1000 u] nPr (PDiv ((a / 1000:Nat):Int) ((a % 1000:Nat):Int)) tX tX
theorem dp2_P:∀ (a:Nat) (t u:Tok),dp2_S a t u:=by
  intro a t u
  intros h1 h2
  k_extra "r16"
  intros B F Nm hO X T hf hke hdp hun hpre hret
  refine wpAny_call ?_
  ((first | refine exE hO ?_ | refine aE hO ?_);clear hO;intro oA;intro zz;k_extra "e";intro cA;intro zz;k_extra "e";intro ocA;intro zz;k_extra "e";intro oB;intro zz;k_extra "e";intro cB;intro zz;k_extra "e";intro ocB;intro zz;k_extra "e";intro zo3;intro zz;subst zo3;k_extra "e";intro stA;intro stB)
  ((k_extra "s2");intro ne1;intro zz;k_extra "e";intro ne2;intro ne3)
  k_extra "r23"
  walk_at "m_fill"
  clear F X T B hf hke
  intro g L' h₁ hg F N B X T hlt hsz;(try dsimp only)
  k_lt hlt
  k_steps
  k_extra "r21"
  subst hg
  k_extra "r22"
  refine (fun dz=>pdiv_of N9 (.head _) (And.left dz) (And.right dz)) (dq2 (by with_reducible assumption) (by with_reducible assumption))
theorem dp2:∀ (a:Nat) (t u:Tok) (h1 : 1024≤a) (h2 : a < 1048576),sM 119 10 [.int (a:Int) t,.int 1000 u] nPr (PDiv ((a / 1000:Nat):Int) ((a % 1000:Nat):Int)) tX tX:=fun a t u h1 h2=>dp2_P a t u h1 h2
example:True:=by
  k_with "call ref"=>((k_here;(refine cI (n:=105) (by with_reducible rfl) ?_);k_dflt (refine' (i2dL3 _ _ _ (by with_reducible assumption) (by with_reducible assumption)) ?kwB ?kwF ?kwNm ?kwO ?kwX ?kwT ?kwc1 ?kwc2 ?kwc3 ?kwc4 ?kwd ?kwu ?kwp ?_;(case kwO=>(exact ⟨_,_,_,rfl,by with_reducible assumption⟩));(case kwNm=>exact nsO (by k_asm) (by lcg_sub));(skip);(case kwB=>k_asm);(case kwF=>k_asm);(case kwX=>k_asm);(case kwT=>k_asm);(case kwc1=>exact rfl);(case kwc2=>exact rfl);(case kwc3=>first | exact rfl | assumption);(case kwc4=>first | exact rfl | assumption);(k_extra "s4");(k_extra "s3");(try (case kwp=>exact True.intro));intro zqccov' zqccoh' zqccotk' zqccomv' zqccohk' zqccohz' zqccohm' zqccoho' zqccohp';clear zqccohz';(((first | refine exE zqccoho' ?_ | refine aE zqccoho' ?_);clear zqccoho';intro zqccoo';intro zz;k_extra "e";intro zqccoc';intro zz;k_extra "e";intro zqccooc';intro zz;k_extra "e";intro zqccoe';intro zqccohst');subst zqccoe');walk_at "m_usedM")))
  k_with "call ref"=>((k_here;(refine cI (n:=112) (by with_reducible rfl) ?_);k_dflt (refine' (d2i3 _ _ _ _ _ _ _ _ ?kwq0 ?kwq1 ?kwq2 0 _ ?kwhx) ?kwB ?kwF ?kwNm ?kwO ?kwX ?kwT ?kwc1 ?kwc2 ?kwc3 ?kwc4 ?kwd ?kwu ?kwp ?_;(k_extra "s8");(case kwNm=>exact nsO (by k_asm) (by lcg_sub));((case kwq0=>exact dvQ (by with_reducible assumption));(case kwq1=>exact dvQ (by with_reducible assumption));(case kwq2=>exact dvQ (by with_reducible assumption));(case kwhx=>(show @Ne Nat _ _);(try dsimp only);omega));(case kwB=>k_asm);(case kwF=>k_asm);(case kwX=>k_asm);(case kwT=>k_asm);(case kwc1=>exact rfl);(case kwc2=>exact rfl);(case kwc3=>first | exact rfl | assumption);(case kwc4=>first | exact rfl | assumption);(k_extra "s4");(k_extra "s3");(try (case kwp=>exact True.intro));intro zqccpv' zqccph' zqccptk' zqccpmv' zqccphk' zqccphz' zqccphm' zqccpho' zqccphp';clear zqccphz';(((first | refine exE zqccpho' ?_ | refine aE zqccpho' ?_);clear zqccpho';intro zqccpo';intro zz;k_extra "e";intro zqccpc';intro zz;k_extra "e";intro zqccpoc';intro zz;k_extra "e";intro zqccpe';intro zqccphst');subst zqccpe');walk_at "m_usedM")))
  trivial
noncomputable def dp3_S (a:Nat) (t u:Tok):Prop:=∀ (h1 : 1048576≤a) (h2 : a < 1073741824),sM 119 10 [.int (a:Int) t,.int 1000 u] nPr (PDiv ((a / 1000:Nat):Int) ((a % 1000:Nat):Int)) tX tX
theorem dp3_P:∀ (a:Nat) (t u:Tok),dp3_S a t u:=by
  intro a t u
  intros h1 h2
  k_extra "r16"
  intros B F Nm hO X T hf hke hdp hun hpre hret
  refine wpAny_call ?_
  ((first | refine exE hO ?_ | refine aE hO ?_);clear hO;intro oA;intro zz;k_extra "e";intro cA;intro zz;k_extra "e";intro ocA;intro zz;k_extra "e";intro oB;intro zz;k_extra "e";intro cB;intro zz;k_extra "e";intro ocB;intro zz;k_extra "e";intro zo4;intro zz;subst zo4;k_extra "e";intro stA;intro stB)
  ((k_extra "s2");intro ne1;intro zz;k_extra "e";intro ne2;intro ne3)
  k_extra "r23"
  walk_at "m_fill"
  clear F X T B hf hke
  intro g L' h₁ hg F N B X T hlt hsz;(try dsimp only)
  k_lt hlt
  k_steps
  k_extra "r21"
  subst hg
  k_extra "r22"
  refine (fun dz=>pdiv_of N9 (.head _) (And.left dz) (And.right dz)) (dq3 (by with_reducible assumption) (by with_reducible assumption) (by with_reducible assumption))
theorem dp3:∀ (a:Nat) (t u:Tok) (h1 : 1048576≤a) (h2 : a < 1073741824),sM 119 10 [.int (a:Int) t,.int 1000 u] nPr (PDiv ((a / 1000:Nat):Int) ((a % 1000:Nat):Int)) tX tX:=fun a t u h1 h2=>dp3_P a t u h1 h2
end
example:True:=by
  k_with "of"=>apply Lx.l317<;>assumption
  k_with "of"=>apply Lx.l123<;>assumption
  k_with "oltN"=>apply Lx.l143<;>assumption
  k_with "of"=>apply Lx.l286<;>assumption
  k_with "oleI"=>apply Lx.l339<;>assumption
  k_with "of"=>apply Lx.l397<;>assumption
  k_with "of"=>apply Lx.l463<;>assumption
  k_with "of"=>apply Lx.l434<;>assumption
  k_with "of"=>apply Lx.l178<;>assumption
  k_with "of"=>apply Lx.l195<;>assumption
  k_with "oleI"=>apply Lx.l581
  k_with "of"=>apply Lx.l483<;>assumption
  k_with "of"=>apply Lx.l329<;>assumption
  k_with "of"=>apply Lx.l504<;>assumption
  k_with "of"=>apply Lx.l565<;>assumption
  k_with "of"=>apply Lx.l590<;>assumption
  k_with "of"=>apply Lx.l509<;>assumption
  trivial
example:True:=by
  k_with "call type:int"=>((k_here;(with_reducible show wpAny _ _ (call (Value.type "int") [Value.str _ _]) _ _ _);refine KIN.call_text (Fct.out (by with_reducible assumption)) (by assumption) ?_))
  k_with "call ref"=>((k_here;kn_here;k_dflt (refine wpAny_call ?_;(refine' code_nest ?kwk1 ?kwk2 ?kwk3 ?kwk4 ?kwk5 ?kwkA ?kwkF ?kwkK ?kwk6 ?kwk7 ?kwk8 ?kwk9 ?kwkB ?_ ?kwc2 ?kwc3 ?kwc4 ?kwc5;(case kwkA=>exact rfl);(case kwkF=>exact rfl);(case kwkK=>exact rfl);(case kwk1=>k_asm);(case kwk2=>k_asm);(case kwk3=>k_asm);(case kwk4=>k_asm);(case kwk5=>k_asm);(case kwk6=>k_mem);(case kwk7=>exact codeRec_news (by k_asm) (by k_mem) (by assumption) (by assumption));(case kwk8=>(show _ < 1000;(k_extra "s1");(try dsimp only);omega));(case kwk9=>exact BindsTo.of_eq rfl);(case kwc5=>decide);(case kwkB=>exact locs rfl);(case kwc2=>exact rfl);(case kwc3=>exact rfl);(case kwc4=>exact rfl);k_whole;intro zqpgqg' zqpgqL' zqpgqh' zqpgqFG' zqpgqF' zqpgqN' zqpgqB' zqpgqX' zqpgqT';(try dsimp only);(try k_lift zqpgqB')))))
  k_with "call ref"=>((k_here;(refine cI (n:=70) (by with_reducible rfl) ?_);k_dflt (refine' (compute_powers _ _ _ _ (by assumption)) ?kwB ?kwF ?kwNm ?kwO ?kwX ?kwT ?kwG ?kwc1 ?kwc2 ?kwc3 ?kwc4 ?kwd ?kwu ?kwp ?_;(case kwO=>(exact rfl));(case kwNm=>exact nsO (by k_asm) (by lcg_sub));(skip);(case kwB=>k_asm);(case kwF=>k_asm);(case kwX=>k_asm);(case kwT=>k_asm);(case kwG=>assumption);(case kwc1=>exact rfl);(case kwc2=>exact rfl);(case kwc3=>first | exact rfl | assumption);(case kwc4=>first | exact rfl | assumption);(k_extra "s4");(k_extra "s3");(try (case kwp=>exact True.intro));intro zqpgrv' zqpgrh' zqpgrg' zqpgrd' zqpgrtk' zqpgrmv' zqpgrhk' zqpgrhz' zqpgrhm' zqpgrho' zqpgrhg' zqpgrhp';clear zqpgrhz';((((first | refine exE zqpgrhp' ?_ | refine aE zqpgrhp' ?_);clear zqpgrhp';intro zqpgra';intro zqpgre');subst zqpgre';subst zqpgrho'));walk_at "m_usedM")))
  trivial
theorem slice_all (x:Str):Txt.slice x (some 0) (some (x.length:Int))=x:=by
  rw [eq_of_beq (slice_closesL (x:=x) (i:=0) (j:=x.length) (by omega) (by omega) (by omega))]
  obtain ⟨⟨l⟩⟩:=x
  simp [Str.length]
noncomputable def str_to_int_S (x:Str) (n:Int) (t:Tok):Prop:=∀ (hn:Fct (PySem.intText? x=some n)) (hl : x.length≤640),SpecX 77 8 [.str x t] nPr (PInt n) (Tab1 72 122 4 (ofString "_str_to_int_inner.<locals>.inner")) (Tab1 72 122 4 (ofString "_str_to_int_inner.<locals>.inner"))
theorem str_to_int_P:∀ (x:Str) (n:Int) (t:Tok),str_to_int_S x n t:=by
  intro x n t
  intros hn hl
  have hc:Fct (decide ((x.length:Int) - 0≤2048)=true):=⟨by simp;omega⟩
  have hl2:(x.length:Int)≤2048:=by omega
  have hs:Fct (Txt.slice x (some 0) (some (x.length:Int))=x):=⟨slice_all x⟩
  k_extra "r11"
  intros B F Nm hO X T hG hf hke hdp hun hpre hret
  refine wpAny_call ?_
  ((first | refine exE hO ?_ | refine aE hO ?_);clear hO;intro oP;intro zz;k_extra "e";intro cP;intro zz;k_extra "e";intro ocP;intro zz;k_extra "e";intro zo1;intro hst;subst zo1)
  revert Nm hpre hret;refine tabE hst ?none ?full
  case none =>
    intros Nm hpre hret
    k_extra "r24"
    walk_at "m_fillC"
    clear F X T B hf hke
    intro g L' h₁ tk₁ cells hg F N Y B X T hlt hsz
    ((first | refine exE (CellsAre.four Y) ?_ | refine aE (CellsAre.four Y) ?_);intro o1;intro zz;k_extra "e";intro o2;intro zz;k_extra "e";intro o3;intro zz;k_extra "e";intro o4;intro zz;k_extra "e";intro hE;intro zz;k_extra "e";intro d1;intro zz;k_extra "e";intro d2;intro zz;k_extra "e";intro d3;intro d4)
    subst hE;clear Y;(try simp only [List.cons_append,List.nil_append] at N);(try dsimp only)
    have C:=codeHd_of_K (c:=76) (P:=72) X (by kernel_rfl)
    replace d1 : o1.data=.cell none:=d1
    replace d2 : o2.data=.cell none:=d2
    replace d3 : o3.data=.cell none:=d3
    replace d4 : o4.data=.cell (some (.str x t)):=d4
    replace F:Fr g L' h₁ (fun y=>none):=F
    k_lt hlt
    have N0:News g L' h₁ [(L'+1+1+1+1,o1),(L'+1+1+1,o2),(L'+1+1,o3),(L'+1,o4),(72,tabObj #[])]:=fun p hp=>N p ((by lcg_sub:∀ p∈[(L'+1+1+1+1,o1),(L'+1+1+1,o2),(L'+1+1,o3),(L'+1,o4),(72,tabObj #[])],p∈[(L'+1+1+1+1,o1),(L'+1+1+1,o2),(L'+1+1,o3),(L'+1,o4),(72,tabObj #[]),(72,tabObj #[])]) p hp)
    clear N
    k_steps
    k_extra "r17"
    subst hg
    k_extra "r25"
    (case c1=>k_mem)
    (case c2=>k_mem)
    exact pint_of rfl
  case full =>
    intro cT ocT vsT tT e1 e2
    intros Nm hpre hret
    k_extra "r24"
    walk_at "m_fillC"
    clear F X T B hf hke
    intro g L' h₁ tk₁ cells hg F N Y B X T hlt hsz
    ((first | refine exE (CellsAre.four Y) ?_ | refine aE (CellsAre.four Y) ?_);intro o1;intro zz;k_extra "e";intro o2;intro zz;k_extra "e";intro o3;intro zz;k_extra "e";intro o4;intro zz;k_extra "e";intro hE;intro zz;k_extra "e";intro d1;intro zz;k_extra "e";intro d2;intro zz;k_extra "e";intro d3;intro d4)
    subst hE;clear Y;(try simp only [List.cons_append,List.nil_append] at N);(try dsimp only)
    have C:=codeHd_of_K (c:=76) (P:=72) X (by kernel_rfl)
    replace d1 : o1.data=.cell none:=d1
    replace d2 : o2.data=.cell none:=d2
    replace d3 : o3.data=.cell none:=d3
    replace d4 : o4.data=.cell (some (.str x t)):=d4
    replace F:Fr g L' h₁ (fun y=>none):=F
    k_lt hlt
    k_steps
    k_extra "r17"
    subst hg
    k_extra "r25"
    (case c1=>k_mem)
    (case c2=>k_mem)
    exact pint_of rfl
theorem str_to_int:∀ (x:Str) (n:Int) (t:Tok) (hn:Fct (PySem.intText? x=some n)) (hl : x.length≤640),SpecX 77 8 [.str x t] nPr (PInt n) (Tab1 72 122 4 (ofString "_str_to_int_inner.<locals>.inner")) (Tab1 72 122 4 (ofString "_str_to_int_inner.<locals>.inner")):=fun x n t hn hl=>str_to_int_P x n t hn hl
example:True:=by
  k_with "oleN"=>apply Lx.l420<;>assumption
  k_with "oleN"=>apply Lx.l263<;>assumption
  k_with "of"=>apply Lx.l322<;>assumption
  trivial
section
open PySem.Builtin PySem.Builtin.Str
variable {prog:Program} {w:World} {A:Around} {E:Value→Shared→Prop} {s:Shared} {x y z:Str} {t u v:Tok} {Q:Value→Shared→Prop}
theorem rstripK {r:Str} (e:Fct (Txt.rstrip x=r)) (h:∀ t' k,s.toks≤k→Q (.str r t') { s with toks:=k }) (hsz : x.length≤sizeLine) : wpAny (model prog w) A (call (.builtin "str.rstrip") [.str x t]) Q E s:=by
  refine call_gives PySem.F.slot_str_rstrip (typeIs_str _ _ _) PySem.F.entry_str_rstrip (PySem.F.args_str_rstrip_1 _) (gives_str_rstrip x t) ?_
  rw [← e.out] at h
  unfold Txt.rstrip Txt.stripBy at h
  by_cases hc : stripSame Unicode.isSpace false true x=true
  · rw [if_pos hc];rw [if_pos hc] at h;exact h t s.toks (Nat.le_refl _)
  · rw [if_neg hc];rw [if_neg hc] at h;exact ⟨fits_stripped _ _ _ hsz,h _ _ (Nat.le_succ _)⟩
theorem replaceK {r : Str} (e : Fct (Txt.replace x y z = r)) (hu : u ≠ 0) (hv : v ≠ 0) (huv : u ≠ v) (hyz : (y == z) = false) (hb : x.length + (x.length + 1) * z.length ≤ 16777216)
    (hq:∀ t' k,Q (.str r t') { s with toks:=k }) : wpAny (model prog w) A (call (.builtin "str.replace") [.str x t,.str y u,.str z v]) Q E s :=
  SC.replace hu hv huv hyz hb (by rw [e.out];exact hq)
end
example:True:=by
  k_with "execs cons"=>(((with_reducible refine wpAny_execs_cons ?_);(try dsimp only [List.length_cons,List.length_nil,Nat.zero_add])))
  k_with "call builtin:str.rstrip"=>((k_here;(refine rstripK (by with_reducible assumption) ?_ (by rw [sizeLine_eq];omega));intro zqq8it' zqq8ik' zqq8ihk'))
  k_with "call builtin:str.replace"=>((k_here;(refine replaceK (by with_reducible assumption) (by (show @Ne Nat _ _);dsimp only at *;omega) (Nat.succ_ne_zero _) (Nat.ne_of_lt (Nat.lt_succ_self _)) (by decide +kernel) (by rw [len_empty];omega) ?_);intro zqq8jt' zqq8jk'))
  k_with "call ref"=>((k_here;(refine cI (n:=77) (by with_reducible rfl) ?_);k_dflt (refine' (str_to_int _ _ _ (by with_reducible assumption) (by assumption)) ?kwB ?kwF ?kwNm ?kwO ?kwX ?kwT ?kwG ?kwc1 ?kwc2 ?kwc3 ?kwc4 ?kwd ?kwu ?kwp ?_;(case kwO=>(exact ⟨_,_,_,rfl,by with_reducible assumption⟩));(case kwNm=>exact nsO (by k_asm) (by lcg_sub));(skip);(case kwB=>k_asm);(case kwF=>k_asm);(case kwX=>k_asm);(case kwT=>k_asm);(case kwG=>assumption);(case kwc1=>exact rfl);(case kwc2=>exact rfl);(case kwc3=>first | exact rfl | assumption);(case kwc4=>first | exact rfl | assumption);(k_extra "s4");(k_extra "s3");(try (case kwp=>exact True.intro));intro zqq8kv' zqq8kh' zqq8kg' zqq8kd' zqq8ktk' zqq8kmv' zqq8khk' zqq8khz' zqq8khm' zqq8kho' zqq8khg' zqq8khp';clear zqq8khz';(((first | refine exE zqq8kho' ?_ | refine aE zqq8kho' ?_);clear zqq8kho';intro zqq8ko';intro zz;k_extra "e";intro zqq8kc';intro zz;k_extra "e";intro zqq8koc';intro zz;k_extra "e";intro zqq8ke';intro zqq8khst');subst zqq8ke');walk_at "m_usedM")))
  trivial
noncomputable def int_from_string_S (x y z:Str) (n:Int) (t:Tok):Prop:=∀ (hx:Fct (Txt.rstrip x=y)) (hy:Fct (Txt.replace y (ofString "_") (ofString "")=z)) (hn:Fct (PySem.intText? z=some n)) (hlx : x.length≤640) (hly : y.length≤640) (hl : z.length≤640),SpecX 84 10 [.str x t] nPr (PInt n) (Tab1 72 122 4 (ofString "_str_to_int_inner.<locals>.inner")) (Tab1 72 122 4 (ofString "_str_to_int_inner.<locals>.inner"))
theorem int_from_string_P:∀ (x y z:Str) (n:Int) (t:Tok),int_from_string_S x y z n t:=by
  intro x y z n t
  intros hx hy hn hlx hly hl
  k_extra "r11"
  intros B F Nm hO X T hG hf hke hdp hun hpre hret
  refine wpAny_call ?_
  ((first | refine exE hO ?_ | refine aE hO ?_);clear hO;intro oP;intro zz;k_extra "e";intro cP;intro zz;k_extra "e";intro ocP;intro zz;k_extra "e";intro zo1;intro hst;subst zo1)
  k_dflt refine' enterM (binds:=[(ofString "s",.str x t)]) B F Nm X T rfl hf hke ?k6 ?k7 ?k8 ?k9 ?kB ?c5 ?c2 ?c3 ?c4 ?_
  walk_at "m_fill"
  clear F X T B hf hke
  intro g L' h₁ hg F N B X T hlt hsz;(try dsimp only)
  k_lt hlt
  k_steps
  (rename Fr g _ _ _=>F9);(rename News g _ _ _=>N9);(rename TabSt 72 _ _ _ _ _ _=>s8)
  subst hg
  exact hret _ _ _ _ _ [(72,_),(_,_)] F9.keep (Nat.le_trans hsz (Nat.le_of_lt F9.ns.lt)) (mvOut_of N9 (by lcg_sub)) ⟨_,_,_,rfl,s8⟩ (by assumption) (pint_of rfl)
theorem int_from_string:∀ (x y z:Str) (n:Int) (t:Tok) (hx:Fct (Txt.rstrip x=y)) (hy:Fct (Txt.replace y (ofString "_") (ofString "")=z)) (hn:Fct (PySem.intText? z=some n)) (hlx : x.length≤640) (hly : y.length≤640) (hl : z.length≤640),SpecX 84 10 [.str x t] nPr (PInt n) (Tab1 72 122 4 (ofString "_str_to_int_inner.<locals>.inner")) (Tab1 72 122 4 (ofString "_str_to_int_inner.<locals>.inner")):=fun x y z n t hx hy hn hlx hly hl=>int_from_string_P x y z n t hx hy hn hlx hly hl
example:True:=by
  k_with "oltI"=>apply Lx.l249<;>assumption
  k_with "oleI"=>apply Lx.l516<;>assumption
  k_with "oeqI"=>apply Lx.l461
  k_with "oltN"=>apply Lx.l183<;>assumption
  k_with "oltI"=>apply Lx.l363<;>assumption
  k_with "oleN"=>apply Lx.l310<;>assumption
  k_with "oleN"=>apply Lx.l555<;>assumption
  k_with "oleI"=>apply Lx.l566<;>assumption
  k_with "oltN"=>apply Lx.l481<;>assumption
  k_with "oleN"=>apply Lx.l284<;>assumption
  k_with "oleI"=>apply Lx.l464<;>assumption
  k_with "oltN"=>apply Lx.l260<;>assumption
  trivial
theorem divpN (a:Nat) (t u:Tok) (h : a < 1073741824):sM 119 10 [.int (a:Int) t,.int 1000 u] nPr (PDiv ((a / 1000:Nat):Int) ((a % 1000:Nat):Int)) tX tX:=by
  by_cases h0 : a=0
  · subst h0;exact dp0 t u
  · by_cases h1 : a < 1024
    · exact dp1 a t u (by omega) h1
    · by_cases h2 : a < 1048576
      · exact dp2 a t u (by omega) h2
      · exact dp3 a t u (by omega) h
theorem divpI (a:Int) (t u:Tok) (h0:Fct (0≤a)) (h:Fct (a < 1073741824)):sM 119 10 [.int a t,.int 1000 u] nPr (PDiv (Int.fdiv a 1000) (Int.fmod a 1000)) tX tX:=by
  obtain ⟨h0⟩:=h0;obtain ⟨h⟩:=h
  obtain ⟨n,rfl⟩:=Int.eq_ofNat_of_zero_le h0
  rw [Int.fdiv_eq_ediv_of_nonneg _ (by decide:(0:Int)≤1000),Int.fmod_eq_emod_of_nonneg _ (by decide:(0:Int)≤1000)]
  exact divpN n t u (by omega)
example:True:=by
  k_with "call ref"=>((k_here;(refine cI (n:=119) (by with_reducible rfl) ?_);k_dflt (refine' (divpI _ _ _ (by with_reducible assumption) (by with_reducible assumption)) ?kwB ?kwF ?kwNm ?kwO ?kwX ?kwT ?kwc1 ?kwc2 ?kwc3 ?kwc4 ?kwd ?kwu ?kwp ?_;(k_extra "s7");(case kwNm=>exact nsO (by k_asm) (by lcg_sub));(skip);(case kwB=>k_asm);(case kwF=>k_asm);(case kwX=>k_asm);(case kwT=>k_asm);(case kwc1=>exact rfl);(case kwc2=>exact rfl);(case kwc3=>first | exact rfl | assumption);(case kwc4=>first | exact rfl | assumption);(k_extra "s4");(k_extra "s3");(try (case kwp=>exact True.intro));intro zqr09v' zqr09h' zqr09tk' zqr09mv' zqr09hk' zqr09hz' zqr09hm' zqr09ho' zqr09hp';clear zqr09hz';(((first | refine exE zqr09ho' ?_ | refine aE zqr09ho' ?_);clear zqr09ho';intro zqr09oA';intro zz;k_extra "e";intro zqr09cA';intro zz;k_extra "e";intro zqr09ocA';intro zz;k_extra "e";intro zqr09oB';intro zz;k_extra "e";intro zqr09cB';intro zz;k_extra "e";intro zqr09ocB';intro zz;k_extra "e";intro zqr09e';intro zz;k_extra "e";intro zqr09stA';intro zqr09stB');subst zqr09e');walk_at "m_usedM")))
  trivial
noncomputable def idA_S (a:Int) (t u:Tok):Prop:=∀ (h0:Fct (0≤a)) (h1:Fct (a < 1073741824)),sM 126 11 [.int a t,.int 1000 u] nPr (PDiv (Int.fdiv a 1000) (Int.fmod a 1000)) tX tX
theorem idA_P:∀ (a:Int) (t u:Tok),idA_S a t u:=by
  intro a t u
  intros h0 h1
  have hc:Fct (decide (a < 0)=false):=⟨by obtain ⟨h0⟩:=h0;simp;omega⟩
  k_extra "r16"
  intros B F Nm hO X T hf hke hdp hun hpre hret
  refine wpAny_call ?_
  ((first | refine exE hO ?_ | refine aE hO ?_);clear hO;intro oA;intro zz;k_extra "e";intro cA;intro zz;k_extra "e";intro ocA;intro zz;k_extra "e";intro oB;intro zz;k_extra "e";intro cB;intro zz;k_extra "e";intro ocB;intro zz;k_extra "e";intro zo1;intro zz;subst zo1;k_extra "e";intro stA;intro stB)
  ((k_extra "s2");intro ne1;intro zz;k_extra "e";intro ne2;intro ne3)
  k_extra "r26"
  walk_at "m_fill"
  clear F X T B hf hke
  intro g L' h₁ hg F N B X T hlt hsz;(try dsimp only)
  k_lt hlt
  k_steps
  k_extra "r21"
  subst hg
  k_extra "r22"
  refine pdiv_of N9 (.head _) ?_ ?_<;>rfl
theorem idA:∀ (a:Int) (t u:Tok) (h0:Fct (0≤a)) (h1:Fct (a < 1073741824)),sM 126 11 [.int a t,.int 1000 u] nPr (PDiv (Int.fdiv a 1000) (Int.fmod a 1000)) tX tX:=fun a t u h0 h1=>idA_P a t u h0 h1
theorem bitNot_eq (a:Int):Builtin.bitNot a=-a - 1:=by unfold Builtin.bitNot;omega
theorem fdivNot {a:Int} (h : a < 0) : -(Int.fdiv (-a - 1) 1000) - 1=Int.fdiv a 1000∧1000+(-(Int.fmod (-a - 1) 1000) - 1)=Int.fmod a 1000:=by
  rw [Int.fdiv_eq_ediv_of_nonneg _ (by decide:(0:Int)≤1000),Int.fdiv_eq_ediv_of_nonneg _ (by decide:(0:Int)≤1000),Int.fmod_eq_emod_of_nonneg _ (by decide:(0:Int)≤1000),Int.fmod_eq_emod_of_nonneg _ (by decide:(0:Int)≤1000)]
  omega
example:True:=by
  k_with "call ref"=>((k_here;(refine cI (n:=126) (by with_reducible rfl) ?_);k_dflt (refine' (idA _ _ _ (⟨by rw [bitNot_eq];omega⟩) (⟨by rw [bitNot_eq];omega⟩)) ?kwB ?kwF ?kwNm ?kwO ?kwX ?kwT ?kwc1 ?kwc2 ?kwc3 ?kwc4 ?kwd ?kwu ?kwp ?_;(k_extra "s7");(case kwNm=>exact nsO (by k_asm) (by lcg_sub));(skip);(case kwB=>k_asm);(case kwF=>k_asm);(case kwX=>k_asm);(case kwT=>k_asm);(case kwc1=>exact rfl);(case kwc2=>exact rfl);(case kwc3=>first | exact rfl | assumption);(case kwc4=>first | exact rfl | assumption);(k_extra "s4");(k_extra "s3");(try (case kwp=>exact True.intro));intro zqr0av' zqr0ah' zqr0atk' zqr0amv' zqr0ahk' zqr0ahz' zqr0ahm' zqr0aho' zqr0ahp';clear zqr0ahz';(((first | refine exE zqr0aho' ?_ | refine aE zqr0aho' ?_);clear zqr0aho';intro zqr0aoA';intro zz;k_extra "e";intro zqr0acA';intro zz;k_extra "e";intro zqr0aocA';intro zz;k_extra "e";intro zqr0aoB';intro zz;k_extra "e";intro zqr0acB';intro zz;k_extra "e";intro zqr0aocB';intro zz;k_extra "e";intro zqr0ae';intro zz;k_extra "e";intro zqr0astA';intro zqr0astB');subst zqr0ae');walk_at "m_usedM")))
  trivial
noncomputable def idB_S (a:Int) (t u:Tok):Prop:=∀ (h0 : a < 0) (h1 : -1073741824≤a),sM 126 12 [.int a t,.int 1000 u] nPr (PDiv (Int.fdiv a 1000) (Int.fmod a 1000)) tX tX
theorem idB_P:∀ (a:Int) (t u:Tok),idB_S a t u:=by
  intro a t u
  intros h0 h1
  have hc:Fct (decide (a < 0)=true):=⟨by simp;omega⟩
  k_extra "r16"
  intros B F Nm hO X T hf hke hdp hun hpre hret
  refine wpAny_call ?_
  ((first | refine exE hO ?_ | refine aE hO ?_);clear hO;intro oA;intro zz;k_extra "e";intro cA;intro zz;k_extra "e";intro ocA;intro zz;k_extra "e";intro oB;intro zz;k_extra "e";intro cB;intro zz;k_extra "e";intro ocB;intro zz;k_extra "e";intro zo2;intro zz;subst zo2;k_extra "e";intro stA;intro stB)
  ((k_extra "s2");intro ne1;intro zz;k_extra "e";intro ne2;intro ne3)
  k_extra "r26"
  walk_at "m_fill"
  clear F X T B hf hke
  intro g L' h₁ hg F N B X T hlt hsz;(try dsimp only)
  k_lt hlt
  k_steps
  k_extra "r21"
  subst hg
  k_extra "r22"
  refine pdiv_of N9 (.head _) ?_ ?_
  · rw [bitNot_eq,bitNot_eq];exact (fdivNot h0).1
  · rw [bitNot_eq,bitNot_eq];exact (fdivNot h0).2
theorem idB:∀ (a:Int) (t u:Tok) (h0 : a < 0) (h1 : -1073741824≤a),sM 126 12 [.int a t,.int 1000 u] nPr (PDiv (Int.fdiv a 1000) (Int.fmod a 1000)) tX tX:=fun a t u h0 h1=>idB_P a t u h0 h1
theorem specM_le {f:Addr} {D D':Nat} {vs:List Value} {Pre:Heap→Prop} {Post:Heap→Value→Heap→Prop} {O O':List (Addr×Obj)→Prop} (x:sM f D vs Pre Post O O') (hD:D≤D'):sM f D' vs Pre Post O O':=by
  intros prog w p loose mean mg mb A env outer A₀ base h₀ L m s Q E mv B F Nm hO X T hhd hA hf hke hdp hun hpre hret
  exact x B F Nm hO X T hhd hA hf hke (by omega) (by omega) hpre hret
theorem idI (a:Int) (t u:Tok) (h0:Fct (-1073741824≤a)) (h1:Fct (a < 1073741824)):sM 126 12 [.int a t,.int 1000 u] nPr (PDiv (Int.fdiv a 1000) (Int.fmod a 1000)) tX tX:=by
  by_cases h : a < 0
  · exact idB a t u h h0.out
  · exact specM_le (idA a t u ⟨by omega⟩ h1) (by decide)
theorem fdivNeg {a:Int}:Int.fdiv (-a) 1000=Int.fdiv a (-1000)∧-(Int.fmod (-a) 1000)=Int.fmod a (-1000):=by
  have e:Int.fdiv (-a) 1000=Int.fdiv a (-1000):=by rw [← Int.neg_fdiv_neg];simp
  refine ⟨e,?_⟩
  have h1:=Int.mul_fdiv_add_fmod (-a) 1000
  have h2:=Int.mul_fdiv_add_fmod a (-1000)
  rw [e] at h1
  omega
example:True:=by
  k_with "call ref"=>((k_here;(refine cI (n:=126) (by with_reducible rfl) ?_);k_dflt (refine' (idI _ _ _ (⟨by omega⟩) (⟨by omega⟩)) ?kwB ?kwF ?kwNm ?kwO ?kwX ?kwT ?kwc1 ?kwc2 ?kwc3 ?kwc4 ?kwd ?kwu ?kwp ?_;(k_extra "s7");(case kwNm=>exact nsO (by k_asm) (by lcg_sub));(skip);(case kwB=>k_asm);(case kwF=>k_asm);(case kwX=>k_asm);(case kwT=>k_asm);(case kwc1=>exact rfl);(case kwc2=>exact rfl);(case kwc3=>first | exact rfl | assumption);(case kwc4=>first | exact rfl | assumption);(k_extra "s4");(k_extra "s3");(try (case kwp=>exact True.intro));intro zqr0bv' zqr0bh' zqr0btk' zqr0bmv' zqr0bhk' zqr0bhz' zqr0bhm' zqr0bho' zqr0bhp';clear zqr0bhz';(((first | refine exE zqr0bho' ?_ | refine aE zqr0bho' ?_);clear zqr0bho';intro zqr0boA';intro zz;k_extra "e";intro zqr0bcA';intro zz;k_extra "e";intro zqr0bocA';intro zz;k_extra "e";intro zqr0boB';intro zz;k_extra "e";intro zqr0bcB';intro zz;k_extra "e";intro zqr0bocB';intro zz;k_extra "e";intro zqr0be';intro zz;k_extra "e";intro zqr0bstA';intro zqr0bstB');subst zqr0be');walk_at "m_usedM")))
  trivial
noncomputable def idC_S (a:Int) (t u:Tok):Prop:=∀ (h0 : -1073741824 < a) (h1 : a < 1073741824),sM 126 14 [.int a t,.int (-1000) u] nPr (PDiv (Int.fdiv a (-1000)) (Int.fmod a (-1000))) tX tX
theorem idC_P:∀ (a:Int) (t u:Tok),idC_S a t u:=by
  intro a t u
  intros h0 h1
  k_extra "r16"
  intros B F Nm hO X T hf hke hdp hun hpre hret
  refine wpAny_call ?_
  ((first | refine exE hO ?_ | refine aE hO ?_);clear hO;intro oA;intro zz;k_extra "e";intro cA;intro zz;k_extra "e";intro ocA;intro zz;k_extra "e";intro oB;intro zz;k_extra "e";intro cB;intro zz;k_extra "e";intro ocB;intro zz;k_extra "e";intro zo3;intro zz;subst zo3;k_extra "e";intro stA;intro stB)
  ((k_extra "s2");intro ne1;intro zz;k_extra "e";intro ne2;intro ne3)
  k_dflt refine' enterM (binds:=[(ofString "a",.int a t),(ofString "b",.int (-1000) u)]) B F Nm X T rfl hf hke ?k6 ?k7 ?k8 ?k9 ?kB ?c5 ?c2 ?c3 ?c4 ?_
  walk_at "m_fill"
  clear F X T B hf hke
  intro g L' h₁ hg F N B X T hlt hsz;(try dsimp only)
  k_lt hlt
  k_steps
  k_extra "r21"
  subst hg
  k_extra "r22"
  exact pdiv_of N9 (.head _) fdivNeg.1 fdivNeg.2
theorem idC:∀ (a:Int) (t u:Tok) (h0 : -1073741824 < a) (h1 : a < 1073741824),sM 126 14 [.int a t,.int (-1000) u] nPr (PDiv (Int.fdiv a (-1000)) (Int.fmod a (-1000))) tX tX:=fun a t u h0 h1=>idC_P a t u h0 h1
example:True:=by
  k_with "oleN"=>apply Lx.l70<;>assumption
  k_with "oleN"=>apply Lx.l282<;>assumption
  k_with "oleN"=>apply Lx.l171<;>assumption
  k_with "oleN"=>apply Lx.l338<;>assumption
  k_with "oleN"=>apply Lx.l432<;>assumption
  k_with "oleN"=>apply Lx.l274<;>assumption
  k_with "oleN"=>apply Lx.l385<;>assumption
  k_with "oleN"=>apply Lx.l358<;>assumption
  k_with "oleN"=>apply Lx.l405<;>assumption
  k_with "oleN"=>apply Lx.l261<;>assumption
  k_with "oltI"=>apply Lx.l398<;>assumption
  trivial
theorem len_p1:(ofString "./").length=2:=by decide +kernel
theorem len_p2:(ofString "z/../").length=5:=by decide +kernel
theorem strK {prog:Program} {w:World} {A:Around} {E:Value→Shared→Prop} {s:Shared} {Q:Value→Shared→Prop} {i:Int} {t:Tok} {x:Str} (e:Fct (ofString (toString i)=x)) (hl : i < 1000000000∧0≤i) (h:∀ t' k,Q (.str x t') { s with toks:=k }) : wpAny (model prog w) A (call (.type "str") [.int i t]) Q E s:=by
  rw [← e.out] at h
  exact P.str_of_int (shown (N:=1000000000) (by omega) hl.1 (by decide +kernel)) (h _ _)
example:True:=by
  k_with "call type:str"=>((k_here;(with_reducible show wpAny _ _ (call (Value.type "str") [Value.int _ _]) _ _ _);(refine strK (by with_reducible assumption) (Fct.out (by with_reducible assumption)) ?_);intro _ _))
  trivial
theorem mod4K {prog:Program} {w:World} {A:Around} {E:Value→Shared→Prop} {s:Shared} {Q:Value→Shared→Prop} {i k:Int} {t u:Tok} (e:Fct (Int.fmod i 4=k)) (h:Q (.int k s.toks) { s with toks:=s.toks+1 }) : wpAny (model prog w) A (binaryOp .Mod (.int i t) (.int 4 u)) Q E s:=by
  rw [← e.out] at h
  exact mod_int' (by decide) h
example:True:=by
  k_with "binaryOp Mod int int"=>((k_here;(with_reducible show wpAny _ _ (binaryOp Operator.Mod (Value.int _ _) (Value.int 4 _)) _ _ _);(rename Fct (Int.fmod _ 4=_)=>zqrs2hf9);k_dflt (refine mod4K zqrs2hf9 ?_)))
  k_with "call ref"=>((k_here;(refine cI (n:=126) (by with_reducible rfl) ?_);k_dflt (refine' (idI _ _ _ (by with_reducible assumption) (by with_reducible assumption)) ?kwB ?kwF ?kwNm ?kwO ?kwX ?kwT ?kwc1 ?kwc2 ?kwc3 ?kwc4 ?kwd ?kwu ?kwp ?_;(k_extra "s7");(case kwNm=>exact nsO (by k_asm) (by lcg_sub));(skip);(case kwB=>k_asm);(case kwF=>k_asm);(case kwX=>k_asm);(case kwT=>k_asm);(case kwc1=>exact rfl);(case kwc2=>exact rfl);(case kwc3=>first | exact rfl | assumption);(case kwc4=>first | exact rfl | assumption);(k_extra "s4");(k_extra "s3");(try (case kwp=>exact True.intro));intro zqrs3v' zqrs3h' zqrs3tk' zqrs3mv' zqrs3hk' zqrs3hz' zqrs3hm' zqrs3ho' zqrs3hp';clear zqrs3hz';(((first | refine exE zqrs3ho' ?_ | refine aE zqrs3ho' ?_);clear zqrs3ho';intro zqrs3oA';intro zz;k_extra "e";intro zqrs3cA';intro zz;k_extra "e";intro zqrs3ocA';intro zz;k_extra "e";intro zqrs3oB';intro zz;k_extra "e";intro zqrs3cB';intro zz;k_extra "e";intro zqrs3ocB';intro zz;k_extra "e";intro zqrs3e';intro zz;k_extra "e";intro zqrs3stA';intro zqrs3stB');subst zqrs3e');walk_at "m_usedM")))
  k_with "call ref"=>((k_here;(refine cI (n:=220) (by with_reducible rfl) ?_);k_dflt (refine' (join3 _ _ _ _ _ (by (simp only [PySem.Str.length_append,len_p1,len_p2,len_slash,len_empty]);omega) (by (simp only [PySem.Str.length_append,len_p1,len_p2,len_slash,len_empty]);omega) (by with_reducible assumption) (by with_reducible assumption) (by with_reducible assumption)) ?kwB ?kwF ?kwX ?kwT ?kwc1 ?kwc2 ?kwc3 ?kwc4 ?kwd ?kwu ?kwp ?_;walk_at "m_used")))
  trivial
theorem np0 (x c d : Str) (t : Tok) (h3 : Fct (Txt.split (Txt.slice x (some 1) none) (ofString "/") = [c, d])) (hx : x.length ≤ 1000) (hx0 : Fct (((x.length : Int) != 0) = true)) (hc : c.length ≤ 1000) (hd : d.length ≤ 1000)
   (h1:Fct ((Txt.slice x none (some 1) != ofString "/")=false)) (h2:Fct ((Txt.slice x (some 1) (some 2) != ofString "/")=true)) (hj:(Txt.join (ofString "/") [c,d]).length≤3000)
   (c0 : Fct (((c.length : Int) != 0) = true)) (d0 : Fct (((d.length : Int) != 0) = true)) (c1 : Fct ((c == ofString ".") = false)) (d1 : Fct ((d == ofString ".") = false)) (c2 : Fct ((c != ofString "..") = true)) (d2 : Fct ((d != ofString "..") = true)) :
    sP 248 3 [.str x t] nPr (PStr (ofString "/"++Txt.join (ofString "/") [c,d])):=normpath0 x c d t hx hx0 hc hd h1 h2 h3 hj c0 d0 c1 d1 c2 d2
example:True:=by
  k_with "call ref"=>((k_here;(refine cI (n:=248) (by with_reducible rfl) ?_);k_dflt (refine' (np0 _ _ _ _ (by with_reducible assumption) (by (simp only [PySem.Str.length_append,len_p1,len_p2,len_slash,len_empty]);omega) (by with_reducible assumption) (by omega) (by omega) (by with_reducible assumption) (by with_reducible assumption) (by assumption) (by with_reducible assumption) (by with_reducible assumption) (by with_reducible assumption) (by with_reducible assumption) (by with_reducible assumption) (by with_reducible assumption)) ?kwB ?kwF ?kwX ?kwT ?kwc1 ?kwc2 ?kwc3 ?kwc4 ?kwd ?kwu ?kwp ?_;walk_at "m_used")))
  trivial
noncomputable def law_path0_S (n k:Int) (c d d1 d2 d3:Str) (t u:Tok):Prop:=∀ (n0:Fct (-1073741824≤n)) (n1:Fct (n < 1073741824)) (hk:Fct (Int.fmod k 4=0)) (eq:Fct (ofString (toString (Int.fdiv n 1000))=c)) (e1:Fct (ofString (toString (Int.fdiv (Int.fmod n 1000) 100))=d1)) (e2:Fct (ofString (toString (Int.fmod (Int.fdiv (Int.fmod n 1000) 10) 10))=d2)) (e3:Fct (ofString (toString (Int.fmod (Int.fmod n 1000) 10))=d3)) (bq:Fct (Int.fdiv n 1000 < 1000000000∧0≤Int.fdiv n 1000)) (b1:Fct (Int.fdiv (Int.fmod n 1000) 100 < 1000000000∧0≤Int.fdiv (Int.fmod n 1000) 100)) (b2:Fct (Int.fmod (Int.fdiv (Int.fmod n 1000) 10) 10 < 1000000000∧0≤Int.fmod (Int.fdiv (Int.fmod n 1000) 10) 10)) (b3:Fct (Int.fmod (Int.fmod n 1000) 10 < 1000000000∧0≤Int.fmod (Int.fmod n 1000) 10)) (lc : c.length≤20) (ld : d.length≤20) (l1 : d1.length≤10) (l2 : d2.length≤10) (l3 : d3.length≤10) (j1:Fct (Txt.startswith (ofString ""++c) (ofString "/")=false)) (j2:Fct (Txt.startswith (d1++d2++d3++ofString "") (ofString "/")=false)) (j3:Fct (Txt.endswith (ofString "/"++(ofString ""++c)) (ofString "/")=false)) (hx0:Fct ((((ofString "/"++(ofString ""++c)++(ofString "/"++(d1++d2++d3++ofString ""))).length:Int) != 0)=true)) (h1:Fct ((Txt.slice (ofString "/"++(ofString ""++c)++(ofString "/"++(d1++d2++d3++ofString ""))) none (some 1) != ofString "/")=false)) (h2:Fct ((Txt.slice (ofString "/"++(ofString ""++c)++(ofString "/"++(d1++d2++d3++ofString ""))) (some 1) (some 2) != ofString "/")=true)) (h3:Fct (Txt.split (Txt.slice (ofString "/"++(ofString ""++c)++(ofString "/"++(d1++d2++d3++ofString ""))) (some 1) none) (ofString "/")=[c,d])) (hj:(Txt.join (ofString "/") [c,d]).length≤3000) (c0:Fct (((c.length:Int) != 0)=true)) (d0:Fct (((d.length:Int) != 0)=true)) (c1:Fct ((c == ofString ".")=false)) (d1':Fct ((d == ofString ".")=false)) (c2:Fct ((c != ofString "..")=true)) (d2':Fct ((d != ofString "..")=true)),sM 255 16 [.int n t,.int k u] nPr (PStr (ofString "/"++Txt.join (ofString "/") [c,d])) tX tX
theorem law_path0_P:∀ (n k:Int) (c d d1 d2 d3:Str) (t u:Tok),law_path0_S n k c d d1 d2 d3 t u:=by
  intro n k c d d1 d2 d3 t u
  intros n0 n1 hk eq e1 e2 e3 bq b1 b2 b3 lc ld l1 l2 l3 j1 j2 j3 hx0 h1 h2 h3 hj c0 d0 c1 d1' c2 d2'
  k_extra "r16"
  intros B F Nm hO X T hf hke hdp hun hpre hret
  refine wpAny_call ?_
  ((first | refine exE hO ?_ | refine aE hO ?_);clear hO;intro oA;intro zz;k_extra "e";intro cA;intro zz;k_extra "e";intro ocA;intro zz;k_extra "e";intro oB;intro zz;k_extra "e";intro cB;intro zz;k_extra "e";intro ocB;intro zz;k_extra "e";intro zo1;intro zz;subst zo1;k_extra "e";intro stA;intro stB)
  ((k_extra "s2");intro ne1;intro zz;k_extra "e";intro ne2;intro ne3)
  k_extra "r27"
  walk_at "m_fill"
  clear F X T B hf hke
  intro g L' h₁ hg F N B X T hlt hsz;(try dsimp only)
  k_lt hlt
  k_steps
  k_extra "r21"
  subst hg
  k_extra "r22"
  exact pstr_of rfl
theorem law_path0 : ∀ (n k : Int) (c d d1 d2 d3 : Str) (t u : Tok) (n0 : Fct (-1073741824 ≤ n)) (n1 : Fct (n < 1073741824)) (hk : Fct (Int.fmod k 4 = 0))
  (eq:Fct (ofString (toString (Int.fdiv n 1000))=c)) (e1:Fct (ofString (toString (Int.fdiv (Int.fmod n 1000) 100))=d1)) (e2:Fct (ofString (toString (Int.fmod (Int.fdiv (Int.fmod n 1000) 10) 10))=d2)) (e3:Fct (ofString (toString (Int.fmod (Int.fmod n 1000) 10))=d3))
  (bq:Fct (Int.fdiv n 1000 < 1000000000∧0≤Int.fdiv n 1000)) (b1:Fct (Int.fdiv (Int.fmod n 1000) 100 < 1000000000∧0≤Int.fdiv (Int.fmod n 1000) 100)) (b2:Fct (Int.fmod (Int.fdiv (Int.fmod n 1000) 10) 10 < 1000000000∧0≤Int.fmod (Int.fdiv (Int.fmod n 1000) 10) 10)) (b3:Fct (Int.fmod (Int.fmod n 1000) 10 < 1000000000∧0≤Int.fmod (Int.fmod n 1000) 10))
  (lc : c.length≤20) (ld : d.length≤20) (l1 : d1.length≤10) (l2 : d2.length≤10) (l3 : d3.length≤10)
  (j1:Fct (Txt.startswith (ofString ""++c) (ofString "/")=false)) (j2:Fct (Txt.startswith (d1++d2++d3++ofString "") (ofString "/")=false)) (j3:Fct (Txt.endswith (ofString "/"++(ofString ""++c)) (ofString "/")=false))
  (hx0:Fct ((((ofString "/"++(ofString ""++c)++(ofString "/"++(d1++d2++d3++ofString ""))).length:Int) != 0)=true)) (h1:Fct ((Txt.slice (ofString "/"++(ofString ""++c)++(ofString "/"++(d1++d2++d3++ofString ""))) none (some 1) != ofString "/")=false)) (h2:Fct ((Txt.slice (ofString "/"++(ofString ""++c)++(ofString "/"++(d1++d2++d3++ofString ""))) (some 1) (some 2) != ofString "/")=true))
  (h3:Fct (Txt.split (Txt.slice (ofString "/"++(ofString ""++c)++(ofString "/"++(d1++d2++d3++ofString ""))) (some 1) none) (ofString "/")=[c,d])) (hj:(Txt.join (ofString "/") [c,d]).length≤3000)
  (c0:Fct (((c.length:Int) != 0)=true)) (d0:Fct (((d.length:Int) != 0)=true)) (c1:Fct ((c == ofString ".")=false)) (d1':Fct ((d == ofString ".")=false)) (c2:Fct ((c != ofString "..")=true)) (d2':Fct ((d != ofString "..")=true)),sM 255 16 [.int n t,.int k u] nPr (PStr (ofString "/"++Txt.join (ofString "/") [c,d])) tX tX:=fun n k c d d1 d2 d3 t u n0 n1 hk eq e1 e2 e3 bq b1 b2 b3 lc ld l1 l2 l3 j1 j2 j3 hx0 h1 h2 h3 hj c0 d0 c1 d1' c2 d2'=>law_path0_P n k c d d1 d2 d3 t u n0 n1 hk eq e1 e2 e3 bq b1 b2 b3 lc ld l1 l2 l3 j1 j2 j3 hx0 h1 h2 h3 hj c0 d0 c1 d1' c2 d2'
theorem np1 (x c d : Str) (t : Tok) (h3 : Fct (Txt.split (Txt.slice x (some 1) none) (ofString "/") = [ofString ".", c, d])) (hx : x.length ≤ 1000) (hx0 : Fct (((x.length : Int) != 0) = true)) (hc : c.length ≤ 1000) (hd : d.length ≤ 1000)
   (h1:Fct ((Txt.slice x none (some 1) != ofString "/")=false)) (h2:Fct ((Txt.slice x (some 1) (some 2) != ofString "/")=true)) (hj:(Txt.join (ofString "/") [c,d]).length≤3000)
   (c0 : Fct (((c.length : Int) != 0) = true)) (d0 : Fct (((d.length : Int) != 0) = true)) (c1 : Fct ((c == ofString ".") = false)) (d1 : Fct ((d == ofString ".") = false)) (c2 : Fct ((c != ofString "..") = true)) (d2 : Fct ((d != ofString "..") = true)) :
    sP 248 3 [.str x t] nPr (PStr (ofString "/"++Txt.join (ofString "/") [c,d])):=normpath1 x c d t hx hx0 hc hd h1 h2 h3 hj c0 d0 c1 d1 c2 d2
example:True:=by
  k_with "call ref"=>((k_here;(refine cI (n:=248) (by with_reducible rfl) ?_);k_dflt (refine' (np1 _ _ _ _ (by with_reducible assumption) (by (simp only [PySem.Str.length_append,len_p1,len_p2,len_slash,len_empty]);omega) (by with_reducible assumption) (by omega) (by omega) (by with_reducible assumption) (by with_reducible assumption) (by assumption) (by with_reducible assumption) (by with_reducible assumption) (by with_reducible assumption) (by with_reducible assumption) (by with_reducible assumption) (by with_reducible assumption)) ?kwB ?kwF ?kwX ?kwT ?kwc1 ?kwc2 ?kwc3 ?kwc4 ?kwd ?kwu ?kwp ?_;walk_at "m_used")))
  trivial
noncomputable def law_path1_S (n k:Int) (c d d1 d2 d3:Str) (t u:Tok):Prop:=∀ (n0:Fct (-1073741824≤n)) (n1:Fct (n < 1073741824)) (hk:Fct (Int.fmod k 4=1)) (eq:Fct (ofString (toString (Int.fdiv n 1000))=c)) (e1:Fct (ofString (toString (Int.fdiv (Int.fmod n 1000) 100))=d1)) (e2:Fct (ofString (toString (Int.fmod (Int.fdiv (Int.fmod n 1000) 10) 10))=d2)) (e3:Fct (ofString (toString (Int.fmod (Int.fmod n 1000) 10))=d3)) (bq:Fct (Int.fdiv n 1000 < 1000000000∧0≤Int.fdiv n 1000)) (b1:Fct (Int.fdiv (Int.fmod n 1000) 100 < 1000000000∧0≤Int.fdiv (Int.fmod n 1000) 100)) (b2:Fct (Int.fmod (Int.fdiv (Int.fmod n 1000) 10) 10 < 1000000000∧0≤Int.fmod (Int.fdiv (Int.fmod n 1000) 10) 10)) (b3:Fct (Int.fmod (Int.fmod n 1000) 10 < 1000000000∧0≤Int.fmod (Int.fmod n 1000) 10)) (lc : c.length≤20) (ld : d.length≤20) (l1 : d1.length≤10) (l2 : d2.length≤10) (l3 : d3.length≤10) (j1:Fct (Txt.startswith (ofString "./"++c) (ofString "/")=false)) (j2:Fct (Txt.startswith (d1++d2++d3++ofString "") (ofString "/")=false)) (j3:Fct (Txt.endswith (ofString "/"++(ofString "./"++c)) (ofString "/")=false)) (hx0:Fct ((((ofString "/"++(ofString "./"++c)++(ofString "/"++(d1++d2++d3++ofString ""))).length:Int) != 0)=true)) (h1:Fct ((Txt.slice (ofString "/"++(ofString "./"++c)++(ofString "/"++(d1++d2++d3++ofString ""))) none (some 1) != ofString "/")=false)) (h2:Fct ((Txt.slice (ofString "/"++(ofString "./"++c)++(ofString "/"++(d1++d2++d3++ofString ""))) (some 1) (some 2) != ofString "/")=true)) (h3:Fct (Txt.split (Txt.slice (ofString "/"++(ofString "./"++c)++(ofString "/"++(d1++d2++d3++ofString ""))) (some 1) none) (ofString "/")=[ofString ".",c,d])) (hj:(Txt.join (ofString "/") [c,d]).length≤3000) (c0:Fct (((c.length:Int) != 0)=true)) (d0:Fct (((d.length:Int) != 0)=true)) (c1:Fct ((c == ofString ".")=false)) (d1':Fct ((d == ofString ".")=false)) (c2:Fct ((c != ofString "..")=true)) (d2':Fct ((d != ofString "..")=true)),sM 255 16 [.int n t,.int k u] nPr (PStr (ofString "/"++Txt.join (ofString "/") [c,d])) tX tX
theorem law_path1_P:∀ (n k:Int) (c d d1 d2 d3:Str) (t u:Tok),law_path1_S n k c d d1 d2 d3 t u:=by
  intro n k c d d1 d2 d3 t u
  intros n0 n1 hk eq e1 e2 e3 bq b1 b2 b3 lc ld l1 l2 l3 j1 j2 j3 hx0 h1 h2 h3 hj c0 d0 c1 d1' c2 d2'
  k_extra "r16"
  intros B F Nm hO X T hf hke hdp hun hpre hret
  refine wpAny_call ?_
  ((first | refine exE hO ?_ | refine aE hO ?_);clear hO;intro oA;intro zz;k_extra "e";intro cA;intro zz;k_extra "e";intro ocA;intro zz;k_extra "e";intro oB;intro zz;k_extra "e";intro cB;intro zz;k_extra "e";intro ocB;intro zz;k_extra "e";intro zo2;intro zz;subst zo2;k_extra "e";intro stA;intro stB)
  ((k_extra "s2");intro ne1;intro zz;k_extra "e";intro ne2;intro ne3)
  k_extra "r27"
  walk_at "m_fill"
  clear F X T B hf hke
  intro g L' h₁ hg F N B X T hlt hsz;(try dsimp only)
  k_lt hlt
  k_steps
  k_extra "r21"
  subst hg
  k_extra "r22"
  exact pstr_of rfl
theorem law_path1 : ∀ (n k : Int) (c d d1 d2 d3 : Str) (t u : Tok) (n0 : Fct (-1073741824 ≤ n)) (n1 : Fct (n < 1073741824)) (hk : Fct (Int.fmod k 4 = 1))
  (eq:Fct (ofString (toString (Int.fdiv n 1000))=c)) (e1:Fct (ofString (toString (Int.fdiv (Int.fmod n 1000) 100))=d1)) (e2:Fct (ofString (toString (Int.fmod (Int.fdiv (Int.fmod n 1000) 10) 10))=d2)) (e3:Fct (ofString (toString (Int.fmod (Int.fmod n 1000) 10))=d3))
  (bq:Fct (Int.fdiv n 1000 < 1000000000∧0≤Int.fdiv n 1000)) (b1:Fct (Int.fdiv (Int.fmod n 1000) 100 < 1000000000∧0≤Int.fdiv (Int.fmod n 1000) 100)) (b2:Fct (Int.fmod (Int.fdiv (Int.fmod n 1000) 10) 10 < 1000000000∧0≤Int.fmod (Int.fdiv (Int.fmod n 1000) 10) 10)) (b3:Fct (Int.fmod (Int.fmod n 1000) 10 < 1000000000∧0≤Int.fmod (Int.fmod n 1000) 10))
  (lc : c.length≤20) (ld : d.length≤20) (l1 : d1.length≤10) (l2 : d2.length≤10) (l3 : d3.length≤10)
  (j1:Fct (Txt.startswith (ofString "./"++c) (ofString "/")=false)) (j2:Fct (Txt.startswith (d1++d2++d3++ofString "") (ofString "/")=false)) (j3:Fct (Txt.endswith (ofString "/"++(ofString "./"++c)) (ofString "/")=false))
  (hx0:Fct ((((ofString "/"++(ofString "./"++c)++(ofString "/"++(d1++d2++d3++ofString ""))).length:Int) != 0)=true)) (h1:Fct ((Txt.slice (ofString "/"++(ofString "./"++c)++(ofString "/"++(d1++d2++d3++ofString ""))) none (some 1) != ofString "/")=false)) (h2:Fct ((Txt.slice (ofString "/"++(ofString "./"++c)++(ofString "/"++(d1++d2++d3++ofString ""))) (some 1) (some 2) != ofString "/")=true))
  (h3:Fct (Txt.split (Txt.slice (ofString "/"++(ofString "./"++c)++(ofString "/"++(d1++d2++d3++ofString ""))) (some 1) none) (ofString "/")=[ofString ".",c,d])) (hj:(Txt.join (ofString "/") [c,d]).length≤3000)
  (c0:Fct (((c.length:Int) != 0)=true)) (d0:Fct (((d.length:Int) != 0)=true)) (c1:Fct ((c == ofString ".")=false)) (d1':Fct ((d == ofString ".")=false)) (c2:Fct ((c != ofString "..")=true)) (d2':Fct ((d != ofString "..")=true)),sM 255 16 [.int n t,.int k u] nPr (PStr (ofString "/"++Txt.join (ofString "/") [c,d])) tX tX:=fun n k c d d1 d2 d3 t u n0 n1 hk eq e1 e2 e3 bq b1 b2 b3 lc ld l1 l2 l3 j1 j2 j3 hx0 h1 h2 h3 hj c0 d0 c1 d1' c2 d2'=>law_path1_P n k c d d1 d2 d3 t u n0 n1 hk eq e1 e2 e3 bq b1 b2 b3 lc ld l1 l2 l3 j1 j2 j3 hx0 h1 h2 h3 hj c0 d0 c1 d1' c2 d2'
theorem np2 (x c d : Str) (t : Tok) (h3 : Fct (Txt.split (Txt.slice x (some 1) none) (ofString "/") = [ofString "z", ofString "..", c, d])) (hx : x.length ≤ 1000) (hx0 : Fct (((x.length : Int) != 0) = true)) (hc : c.length ≤ 1000) (hd : d.length ≤ 1000)
   (h1:Fct ((Txt.slice x none (some 1) != ofString "/")=false)) (h2:Fct ((Txt.slice x (some 1) (some 2) != ofString "/")=true)) (hj:(Txt.join (ofString "/") [c,d]).length≤3000)
   (c0 : Fct (((c.length : Int) != 0) = true)) (d0 : Fct (((d.length : Int) != 0) = true)) (c1 : Fct ((c == ofString ".") = false)) (d1 : Fct ((d == ofString ".") = false)) (c2 : Fct ((c != ofString "..") = true)) (d2 : Fct ((d != ofString "..") = true)) :
    sP 248 3 [.str x t] nPr (PStr (ofString "/"++Txt.join (ofString "/") [c,d])):=normpath2 x c d t hx hx0 hc hd h1 h2 h3 hj c0 d0 c1 d1 c2 d2
example:True:=by
  k_with "call ref"=>((k_here;(refine cI (n:=248) (by with_reducible rfl) ?_);k_dflt (refine' (np2 _ _ _ _ (by with_reducible assumption) (by (simp only [PySem.Str.length_append,len_p1,len_p2,len_slash,len_empty]);omega) (by with_reducible assumption) (by omega) (by omega) (by with_reducible assumption) (by with_reducible assumption) (by assumption) (by with_reducible assumption) (by with_reducible assumption) (by with_reducible assumption) (by with_reducible assumption) (by with_reducible assumption) (by with_reducible assumption)) ?kwB ?kwF ?kwX ?kwT ?kwc1 ?kwc2 ?kwc3 ?kwc4 ?kwd ?kwu ?kwp ?_;walk_at "m_used")))
  trivial
noncomputable def law_path2_S (n k:Int) (c d d1 d2 d3:Str) (t u:Tok):Prop:=∀ (n0:Fct (-1073741824≤n)) (n1:Fct (n < 1073741824)) (hk:Fct (Int.fmod k 4=2)) (eq:Fct (ofString (toString (Int.fdiv n 1000))=c)) (e1:Fct (ofString (toString (Int.fdiv (Int.fmod n 1000) 100))=d1)) (e2:Fct (ofString (toString (Int.fmod (Int.fdiv (Int.fmod n 1000) 10) 10))=d2)) (e3:Fct (ofString (toString (Int.fmod (Int.fmod n 1000) 10))=d3)) (bq:Fct (Int.fdiv n 1000 < 1000000000∧0≤Int.fdiv n 1000)) (b1:Fct (Int.fdiv (Int.fmod n 1000) 100 < 1000000000∧0≤Int.fdiv (Int.fmod n 1000) 100)) (b2:Fct (Int.fmod (Int.fdiv (Int.fmod n 1000) 10) 10 < 1000000000∧0≤Int.fmod (Int.fdiv (Int.fmod n 1000) 10) 10)) (b3:Fct (Int.fmod (Int.fmod n 1000) 10 < 1000000000∧0≤Int.fmod (Int.fmod n 1000) 10)) (lc : c.length≤20) (ld : d.length≤20) (l1 : d1.length≤10) (l2 : d2.length≤10) (l3 : d3.length≤10) (j1:Fct (Txt.startswith (ofString "z/../"++c) (ofString "/")=false)) (j2:Fct (Txt.startswith (d1++d2++d3++ofString "") (ofString "/")=false)) (j3:Fct (Txt.endswith (ofString "/"++(ofString "z/../"++c)) (ofString "/")=false)) (hx0:Fct ((((ofString "/"++(ofString "z/../"++c)++(ofString "/"++(d1++d2++d3++ofString ""))).length:Int) != 0)=true)) (h1:Fct ((Txt.slice (ofString "/"++(ofString "z/../"++c)++(ofString "/"++(d1++d2++d3++ofString ""))) none (some 1) != ofString "/")=false)) (h2:Fct ((Txt.slice (ofString "/"++(ofString "z/../"++c)++(ofString "/"++(d1++d2++d3++ofString ""))) (some 1) (some 2) != ofString "/")=true)) (h3:Fct (Txt.split (Txt.slice (ofString "/"++(ofString "z/../"++c)++(ofString "/"++(d1++d2++d3++ofString ""))) (some 1) none) (ofString "/")=[ofString "z",ofString "..",c,d])) (hj:(Txt.join (ofString "/") [c,d]).length≤3000) (c0:Fct (((c.length:Int) != 0)=true)) (d0:Fct (((d.length:Int) != 0)=true)) (c1:Fct ((c == ofString ".")=false)) (d1':Fct ((d == ofString ".")=false)) (c2:Fct ((c != ofString "..")=true)) (d2':Fct ((d != ofString "..")=true)),sM 255 16 [.int n t,.int k u] nPr (PStr (ofString "/"++Txt.join (ofString "/") [c,d])) tX tX
theorem law_path2_P:∀ (n k:Int) (c d d1 d2 d3:Str) (t u:Tok),law_path2_S n k c d d1 d2 d3 t u:=by
  intro n k c d d1 d2 d3 t u
  intros n0 n1 hk eq e1 e2 e3 bq b1 b2 b3 lc ld l1 l2 l3 j1 j2 j3 hx0 h1 h2 h3 hj c0 d0 c1 d1' c2 d2'
  k_extra "r16"
  intros B F Nm hO X T hf hke hdp hun hpre hret
  refine wpAny_call ?_
  ((first | refine exE hO ?_ | refine aE hO ?_);clear hO;intro oA;intro zz;k_extra "e";intro cA;intro zz;k_extra "e";intro ocA;intro zz;k_extra "e";intro oB;intro zz;k_extra "e";intro cB;intro zz;k_extra "e";intro ocB;intro zz;k_extra "e";intro zo3;intro zz;subst zo3;k_extra "e";intro stA;intro stB)
  ((k_extra "s2");intro ne1;intro zz;k_extra "e";intro ne2;intro ne3)
  k_extra "r27"
  walk_at "m_fill"
  clear F X T B hf hke
  intro g L' h₁ hg F N B X T hlt hsz;(try dsimp only)
  k_lt hlt
  k_steps
  k_extra "r21"
  subst hg
  k_extra "r22"
  exact pstr_of rfl
theorem law_path2 : ∀ (n k : Int) (c d d1 d2 d3 : Str) (t u : Tok) (n0 : Fct (-1073741824 ≤ n)) (n1 : Fct (n < 1073741824)) (hk : Fct (Int.fmod k 4 = 2))
  (eq:Fct (ofString (toString (Int.fdiv n 1000))=c)) (e1:Fct (ofString (toString (Int.fdiv (Int.fmod n 1000) 100))=d1)) (e2:Fct (ofString (toString (Int.fmod (Int.fdiv (Int.fmod n 1000) 10) 10))=d2)) (e3:Fct (ofString (toString (Int.fmod (Int.fmod n 1000) 10))=d3))
  (bq:Fct (Int.fdiv n 1000 < 1000000000∧0≤Int.fdiv n 1000)) (b1:Fct (Int.fdiv (Int.fmod n 1000) 100 < 1000000000∧0≤Int.fdiv (Int.fmod n 1000) 100)) (b2:Fct (Int.fmod (Int.fdiv (Int.fmod n 1000) 10) 10 < 1000000000∧0≤Int.fmod (Int.fdiv (Int.fmod n 1000) 10) 10)) (b3:Fct (Int.fmod (Int.fmod n 1000) 10 < 1000000000∧0≤Int.fmod (Int.fmod n 1000) 10))
  (lc : c.length≤20) (ld : d.length≤20) (l1 : d1.length≤10) (l2 : d2.length≤10) (l3 : d3.length≤10)
  (j1:Fct (Txt.startswith (ofString "z/../"++c) (ofString "/")=false)) (j2:Fct (Txt.startswith (d1++d2++d3++ofString "") (ofString "/")=false)) (j3:Fct (Txt.endswith (ofString "/"++(ofString "z/../"++c)) (ofString "/")=false))
  (hx0:Fct ((((ofString "/"++(ofString "z/../"++c)++(ofString "/"++(d1++d2++d3++ofString ""))).length:Int) != 0)=true)) (h1:Fct ((Txt.slice (ofString "/"++(ofString "z/../"++c)++(ofString "/"++(d1++d2++d3++ofString ""))) none (some 1) != ofString "/")=false)) (h2:Fct ((Txt.slice (ofString "/"++(ofString "z/../"++c)++(ofString "/"++(d1++d2++d3++ofString ""))) (some 1) (some 2) != ofString "/")=true))
  (h3:Fct (Txt.split (Txt.slice (ofString "/"++(ofString "z/../"++c)++(ofString "/"++(d1++d2++d3++ofString ""))) (some 1) none) (ofString "/")=[ofString "z",ofString "..",c,d])) (hj:(Txt.join (ofString "/") [c,d]).length≤3000)
  (c0:Fct (((c.length:Int) != 0)=true)) (d0:Fct (((d.length:Int) != 0)=true)) (c1:Fct ((c == ofString ".")=false)) (d1':Fct ((d == ofString ".")=false)) (c2:Fct ((c != ofString "..")=true)) (d2':Fct ((d != ofString "..")=true)),sM 255 16 [.int n t,.int k u] nPr (PStr (ofString "/"++Txt.join (ofString "/") [c,d])) tX tX:=fun n k c d d1 d2 d3 t u n0 n1 hk eq e1 e2 e3 bq b1 b2 b3 lc ld l1 l2 l3 j1 j2 j3 hx0 h1 h2 h3 hj c0 d0 c1 d1' c2 d2'=>law_path2_P n k c d d1 d2 d3 t u n0 n1 hk eq e1 e2 e3 bq b1 b2 b3 lc ld l1 l2 l3 j1 j2 j3 hx0 h1 h2 h3 hj c0 d0 c1 d1' c2 d2'
theorem np3 (x c d : Str) (t : Tok) (h3 : Fct (Txt.split (Txt.slice x (some 1) none) (ofString "/") = [c, d, ofString ""])) (hx : x.length ≤ 1000) (hx0 : Fct (((x.length : Int) != 0) = true)) (hc : c.length ≤ 1000) (hd : d.length ≤ 1000)
   (h1:Fct ((Txt.slice x none (some 1) != ofString "/")=false)) (h2:Fct ((Txt.slice x (some 1) (some 2) != ofString "/")=true)) (hj:(Txt.join (ofString "/") [c,d]).length≤3000)
   (c0 : Fct (((c.length : Int) != 0) = true)) (d0 : Fct (((d.length : Int) != 0) = true)) (c1 : Fct ((c == ofString ".") = false)) (d1 : Fct ((d == ofString ".") = false)) (c2 : Fct ((c != ofString "..") = true)) (d2 : Fct ((d != ofString "..") = true)) :
    sP 248 3 [.str x t] nPr (PStr (ofString "/"++Txt.join (ofString "/") [c,d])):=normpath3 x c d t hx hx0 hc hd h1 h2 h3 hj c0 d0 c1 d1 c2 d2
example:True:=by
  k_with "call ref"=>((k_here;(refine cI (n:=248) (by with_reducible rfl) ?_);k_dflt (refine' (np3 _ _ _ _ (by with_reducible assumption) (by (simp only [PySem.Str.length_append,len_p1,len_p2,len_slash,len_empty]);omega) (by with_reducible assumption) (by omega) (by omega) (by with_reducible assumption) (by with_reducible assumption) (by assumption) (by with_reducible assumption) (by with_reducible assumption) (by with_reducible assumption) (by with_reducible assumption) (by with_reducible assumption) (by with_reducible assumption)) ?kwB ?kwF ?kwX ?kwT ?kwc1 ?kwc2 ?kwc3 ?kwc4 ?kwd ?kwu ?kwp ?_;walk_at "m_used")))
  trivial
noncomputable def law_path3_S (n k:Int) (c d d1 d2 d3:Str) (t u:Tok):Prop:=∀ (n0:Fct (-1073741824≤n)) (n1:Fct (n < 1073741824)) (hk:Fct (Int.fmod k 4=3)) (eq:Fct (ofString (toString (Int.fdiv n 1000))=c)) (e1:Fct (ofString (toString (Int.fdiv (Int.fmod n 1000) 100))=d1)) (e2:Fct (ofString (toString (Int.fmod (Int.fdiv (Int.fmod n 1000) 10) 10))=d2)) (e3:Fct (ofString (toString (Int.fmod (Int.fmod n 1000) 10))=d3)) (bq:Fct (Int.fdiv n 1000 < 1000000000∧0≤Int.fdiv n 1000)) (b1:Fct (Int.fdiv (Int.fmod n 1000) 100 < 1000000000∧0≤Int.fdiv (Int.fmod n 1000) 100)) (b2:Fct (Int.fmod (Int.fdiv (Int.fmod n 1000) 10) 10 < 1000000000∧0≤Int.fmod (Int.fdiv (Int.fmod n 1000) 10) 10)) (b3:Fct (Int.fmod (Int.fmod n 1000) 10 < 1000000000∧0≤Int.fmod (Int.fmod n 1000) 10)) (lc : c.length≤20) (ld : d.length≤20) (l1 : d1.length≤10) (l2 : d2.length≤10) (l3 : d3.length≤10) (j1:Fct (Txt.startswith (ofString ""++c) (ofString "/")=false)) (j2:Fct (Txt.startswith (d1++d2++d3++ofString "/") (ofString "/")=false)) (j3:Fct (Txt.endswith (ofString "/"++(ofString ""++c)) (ofString "/")=false)) (hx0:Fct ((((ofString "/"++(ofString ""++c)++(ofString "/"++(d1++d2++d3++ofString "/"))).length:Int) != 0)=true)) (h1:Fct ((Txt.slice (ofString "/"++(ofString ""++c)++(ofString "/"++(d1++d2++d3++ofString "/"))) none (some 1) != ofString "/")=false)) (h2:Fct ((Txt.slice (ofString "/"++(ofString ""++c)++(ofString "/"++(d1++d2++d3++ofString "/"))) (some 1) (some 2) != ofString "/")=true)) (h3:Fct (Txt.split (Txt.slice (ofString "/"++(ofString ""++c)++(ofString "/"++(d1++d2++d3++ofString "/"))) (some 1) none) (ofString "/")=[c,d,ofString ""])) (hj:(Txt.join (ofString "/") [c,d]).length≤3000) (c0:Fct (((c.length:Int) != 0)=true)) (d0:Fct (((d.length:Int) != 0)=true)) (c1:Fct ((c == ofString ".")=false)) (d1':Fct ((d == ofString ".")=false)) (c2:Fct ((c != ofString "..")=true)) (d2':Fct ((d != ofString "..")=true)),sM 255 16 [.int n t,.int k u] nPr (PStr (ofString "/"++Txt.join (ofString "/") [c,d])) tX tX
theorem law_path3_P:∀ (n k:Int) (c d d1 d2 d3:Str) (t u:Tok),law_path3_S n k c d d1 d2 d3 t u:=by
  intro n k c d d1 d2 d3 t u
  intros n0 n1 hk eq e1 e2 e3 bq b1 b2 b3 lc ld l1 l2 l3 j1 j2 j3 hx0 h1 h2 h3 hj c0 d0 c1 d1' c2 d2'
  k_extra "r16"
  intros B F Nm hO X T hf hke hdp hun hpre hret
  refine wpAny_call ?_
  ((first | refine exE hO ?_ | refine aE hO ?_);clear hO;intro oA;intro zz;k_extra "e";intro cA;intro zz;k_extra "e";intro ocA;intro zz;k_extra "e";intro oB;intro zz;k_extra "e";intro cB;intro zz;k_extra "e";intro ocB;intro zz;k_extra "e";intro zo4;intro zz;subst zo4;k_extra "e";intro stA;intro stB)
  ((k_extra "s2");intro ne1;intro zz;k_extra "e";intro ne2;intro ne3)
  k_extra "r27"
  walk_at "m_fill"
  clear F X T B hf hke
  intro g L' h₁ hg F N B X T hlt hsz;(try dsimp only)
  k_lt hlt
  k_steps
  k_extra "r21"
  subst hg
  k_extra "r22"
  exact pstr_of rfl
theorem law_path3 : ∀ (n k : Int) (c d d1 d2 d3 : Str) (t u : Tok) (n0 : Fct (-1073741824 ≤ n)) (n1 : Fct (n < 1073741824)) (hk : Fct (Int.fmod k 4 = 3))
  (eq:Fct (ofString (toString (Int.fdiv n 1000))=c)) (e1:Fct (ofString (toString (Int.fdiv (Int.fmod n 1000) 100))=d1)) (e2:Fct (ofString (toString (Int.fmod (Int.fdiv (Int.fmod n 1000) 10) 10))=d2)) (e3:Fct (ofString (toString (Int.fmod (Int.fmod n 1000) 10))=d3))
  (bq:Fct (Int.fdiv n 1000 < 1000000000∧0≤Int.fdiv n 1000)) (b1:Fct (Int.fdiv (Int.fmod n 1000) 100 < 1000000000∧0≤Int.fdiv (Int.fmod n 1000) 100)) (b2:Fct (Int.fmod (Int.fdiv (Int.fmod n 1000) 10) 10 < 1000000000∧0≤Int.fmod (Int.fdiv (Int.fmod n 1000) 10) 10)) (b3:Fct (Int.fmod (Int.fmod n 1000) 10 < 1000000000∧0≤Int.fmod (Int.fmod n 1000) 10))
  (lc : c.length≤20) (ld : d.length≤20) (l1 : d1.length≤10) (l2 : d2.length≤10) (l3 : d3.length≤10)
  (j1:Fct (Txt.startswith (ofString ""++c) (ofString "/")=false)) (j2:Fct (Txt.startswith (d1++d2++d3++ofString "/") (ofString "/")=false)) (j3:Fct (Txt.endswith (ofString "/"++(ofString ""++c)) (ofString "/")=false))
  (hx0:Fct ((((ofString "/"++(ofString ""++c)++(ofString "/"++(d1++d2++d3++ofString "/"))).length:Int) != 0)=true)) (h1:Fct ((Txt.slice (ofString "/"++(ofString ""++c)++(ofString "/"++(d1++d2++d3++ofString "/"))) none (some 1) != ofString "/")=false)) (h2:Fct ((Txt.slice (ofString "/"++(ofString ""++c)++(ofString "/"++(d1++d2++d3++ofString "/"))) (some 1) (some 2) != ofString "/")=true))
  (h3:Fct (Txt.split (Txt.slice (ofString "/"++(ofString ""++c)++(ofString "/"++(d1++d2++d3++ofString "/"))) (some 1) none) (ofString "/")=[c,d,ofString ""])) (hj:(Txt.join (ofString "/") [c,d]).length≤3000)
  (c0:Fct (((c.length:Int) != 0)=true)) (d0:Fct (((d.length:Int) != 0)=true)) (c1:Fct ((c == ofString ".")=false)) (d1':Fct ((d == ofString ".")=false)) (c2:Fct ((c != ofString "..")=true)) (d2':Fct ((d != ofString "..")=true)),sM 255 16 [.int n t,.int k u] nPr (PStr (ofString "/"++Txt.join (ofString "/") [c,d])) tX tX:=fun n k c d d1 d2 d3 t u n0 n1 hk eq e1 e2 e3 bq b1 b2 b3 lc ld l1 l2 l3 j1 j2 j3 hx0 h1 h2 h3 hj c0 d0 c1 d1' c2 d2'=>law_path3_P n k c d d1 d2 d3 t u n0 n1 hk eq e1 e2 e3 bq b1 b2 b3 lc ld l1 l2 l3 j1 j2 j3 hx0 h1 h2 h3 hj c0 d0 c1 d1' c2 d2'
section
open GT
example:True:=by
  k_with "ox"=>apply Lx.l390
  k_with "of"=>apply Lx.l388<;>assumption
  k_with "of"=>apply Lx.l442<;>assumption
  k_with "oeqI"=>apply Lx.l79
  k_with "oeqN"=>apply Lx.l118
  k_with "oltI"=>apply Lx.l27<;>assumption
  k_with "oltN"=>apply Lx.l20
  k_with "oeqI"=>apply Lx.l32
  k_with "of"=>apply Lx.l305<;>assumption
  k_with "oleN"=>apply Lx.l247<;>assumption
  k_with "of"=>apply Lx.l455<;>assumption
  k_with "oleI"=>apply Lx.l235
  k_with "oltI"=>apply Lx.l18<;>assumption
  k_with "oeqI"=>apply Lx.l215
  k_with "oeqI"=>apply Lx.l325
  k_with "oltI"=>apply Lx.l62<;>assumption
  k_with "oltN"=>apply Lx.l222<;>assumption
  k_with "oeqI"=>apply Lx.l392
  k_with "of"=>apply Lx.l484<;>assumption
  k_with "oeqN"=>apply Lx.l30
  k_with "oltI"=>apply Lx.l36<;>assumption
  k_with "oeqI"=>apply Lx.l46
  k_with "oltN"=>apply Lx.l108
  k_with "oleI"=>apply Lx.l8
  k_with "of"=>apply Lx.l193<;>assumption
  k_with "oleN"=>apply Lx.l285<;>assumption
  k_with "oeqI"=>apply Lx.l99
  k_with "oleN"=>apply Lx.l73<;>assumption
  k_with "oeqI"=>apply Lx.l265
  k_with "oeqI"=>apply Lx.l333
  k_with "oeqI"=>apply Lx.l414
  k_with "oleI"=>apply Lx.l100
  k_with "oleI"=>apply Lx.l49<;>assumption
  k_with "oleI"=>apply Lx.l160
  k_with "oeqI"=>apply Lx.l453
  k_with "oeqI"=>apply Lx.l450
  k_with "oleI"=>apply Lx.l83
  k_with "oleN"=>apply Lx.l15<;>assumption
  k_with "oltI"=>apply Lx.l533<;>assumption
  k_with "oleI"=>apply Lx.l368
  k_with "oeqI"=>apply Lx.l244
  k_with "oleN"=>apply Lx.l268<;>assumption
  k_with "oeqN"=>apply Lx.l101
  k_with "oeqI"=>apply Lx.l25<;>assumption
  k_with "oltI"=>apply Lx.l3<;>assumption
  k_with "oltI"=>apply Lx.l259<;>assumption
  k_with "oleI"=>apply Lx.l264<;>assumption
  k_with "oand"=>apply Lx.l81<;>assumption
  k_with "oltI"=>apply Lx.l270<;>assumption
  k_with "oltN"=>apply Lx.l51<;>assumption
  k_with "oleI"=>apply Lx.l489<;>assumption
  k_with "oeqN"=>apply Lx.l406
  k_with "oand"=>apply Lx.l14<;>assumption
  k_with "oeqN"=>apply Lx.l4<;>assumption
  k_with "oltI"=>apply Lx.l191<;>assumption
  k_with "of"=>apply Lx.l530<;>assumption
  k_with "oltI"=>apply Lx.l116<;>assumption
  k_with "oeqI"=>apply Lx.l167
  k_with "oleN"=>apply Lx.l22<;>assumption
  k_with "oeqN"=>apply Lx.l40<;>assumption
  k_with "oltI"=>apply Lx.l361<;>assumption
  k_with "oand"=>apply Lx.l146<;>assumption
  k_with "oltN"=>apply Lx.l76
  k_with "oeqI"=>apply Lx.l233
  k_with "oleI"=>apply Lx.l43<;>assumption
  k_with "oltI"=>apply Lx.l12<;>assumption
  k_with "oand"=>apply Lx.l106<;>assumption
  k_with "oltI"=>apply Lx.l354<;>assumption
  k_with "oleI"=>apply Lx.l312
  k_with "of"=>apply Lx.l356<;>assumption
  k_with "oltI"=>apply Lx.l545<;>assumption
  k_with "oleI"=>apply Lx.l417
  k_with "oleI"=>apply Lx.l228<;>assumption
  k_with "oeqI"=>apply Lx.l225
  k_with "oltI"=>apply Lx.l541<;>assumption
  k_with "oleI"=>apply Lx.l98
  k_with "oleN"=>apply Lx.l136<;>assumption
  k_with "of"=>apply Lx.l551<;>assumption
  k_with "oleI"=>apply Lx.l19
  k_with "oleN"=>apply Lx.l55<;>assumption
  k_with "oltI"=>apply Lx.l374<;>assumption
  k_with "of"=>apply Lx.l375<;>assumption
  k_with "of"=>apply Lx.l399<;>assumption
  k_with "oleI"=>apply Lx.l471<;>assumption
  k_with "oltI"=>apply Lx.l490<;>assumption
  k_with "oeqI"=>apply Lx.l240<;>assumption
  k_with "oeqN"=>apply Lx.l407
  k_with "oeqI"=>apply Lx.l277
  k_with "oltN"=>apply Lx.l393<;>assumption
  k_with "of"=>apply Lx.l311<;>assumption
  k_with "ox"=>apply Lx.l542
  k_with "oltI"=>apply Lx.l342<;>assumption
  k_with "oeqI"=>apply Lx.l214
  k_with "of"=>apply Lx.l383<;>assumption
  k_with "of"=>apply Lx.l554<;>assumption
  k_with "of"=>apply Lx.l523<;>assumption
  k_with "oeqI"=>apply Lx.l219
  k_with "oleN"=>apply Lx.l59<;>assumption
  k_with "oltN"=>apply Lx.l90
  k_with "oleN"=>apply Lx.l271<;>assumption
  k_with "oeqN"=>apply Lx.l119
  k_with "oleI"=>apply Lx.l592<;>assumption
  k_with "oeqN"=>apply Lx.l5<;>assumption
  k_with "oltI"=>apply Lx.l376<;>assumption
  k_with "oleN"=>apply Lx.l262<;>assumption
  k_with "oltN"=>apply Lx.l207<;>assumption
  k_with "oleN"=>apply Lx.l128<;>assumption
  k_with "oleN"=>apply Lx.l86<;>assumption
  k_with "oeqI"=>apply Lx.l444
  k_with "oleN"=>apply Lx.l115<;>assumption
  k_with "oeqN"=>apply Lx.l300
  k_with "oleN"=>apply Lx.l147<;>assumption
  k_with "oleN"=>apply Lx.l369<;>assumption
  k_with "oltI"=>apply Lx.l359<;>assumption
  k_with "oltI"=>apply Lx.l163<;>assumption
  k_with "oltN"=>apply Lx.l71
  k_with "of"=>apply Lx.l288<;>assumption
  k_with "oltI"=>apply Lx.l578<;>assumption
  k_with "oleI"=>apply Lx.l217
  k_with "oltN"=>apply Lx.l266<;>assumption
  k_with "of"=>apply Lx.l548<;>assumption
  k_with "oleN"=>apply Lx.l538
  k_with "oleN"=>apply Lx.l44<;>assumption
  k_with "oleN"=>apply Lx.l192<;>assumption
  k_with "oand"=>apply Lx.l335<;>assumption
  k_with "oand"=>apply Lx.l93<;>assumption
  k_with "oleI"=>apply Lx.l63<;>assumption
  k_with "oleN"=>apply Lx.l148<;>assumption
  k_with "of"=>apply Lx.l549<;>assumption
  k_with "oltN"=>apply Lx.l435
  k_with "oeqN"=>apply Lx.l154<;>assumption
  k_with "of"=>apply Lx.l485<;>assumption
  k_with "oltI"=>apply Lx.l326<;>assumption
  k_with "of"=>apply Lx.l495<;>assumption
  k_with "oeqI"=>apply Lx.l303
  trivial
example:True:=by
  k_with "execs cons"=>((k_extra "gT";(k_here;(with_reducible first | (refine consCutV (by assumption) ?_;intro zqwepQ9 zqweph9) | (refine consCutN ?_;intro zqwepQ8 zqweph8 zqwepQ9 zqweph9)))))
  k_with "execs cons"=>((k_extra "gT";((rename tAt _ _=>zqweqhT9);(with_reducible first | (refine consCutTV (by assumption) (Nat.le_trans zqweqhT9.le (by (try dsimp only);first | exact Nat.le_refl _ | exact Nat.le_succ _ | omega)) ?_;intro zqweqQ9 zqweqh9) | (refine consCutTW (by assumption) (Nat.le_trans zqweqhT9.le (by (try dsimp only);first | exact Nat.le_refl _ | exact Nat.le_succ _ | omega)) ?_;intro zqweqQ9 zqweqh9) | (refine consCutTN (Nat.le_trans zqweqhT9.le (by (try dsimp only);first | exact Nat.le_refl _ | exact Nat.le_succ _ | omega)) ?_;intro zqweqQ8 zqweqh8 zqweqQ9 zqweqh9)))))
  k_with "execs cons Assign cons"=>((k_extra "gT";walk_at "execs cons"))
  k_with "x_out"=>(((with_reducible first | refine CutT.next (by assumption) ?_ | refine CutT.ret (by assumption) ?_ | refine CutT.brk (by assumption) ?_ | refine CutT.cont (by assumption) ?_ | refine CutH.next (by assumption) ?_ | refine CutH.ret (by assumption) ?_ | refine CutH.brk (by assumption) ?_ | refine CutH.cont (by assumption) ?_ | refine CutV.go (by assumption) _ _ ?_ | refine CutH.go (by assumption) _ _ ?_);(try dsimp only)))
  trivial
local macro_rules | `(tactic| k_steps)=>`(tactic| repeat' (k_extra "k_steps Tl"))
example:True:=by
  k_with "k_steps Tl"=>(first | (k_unfold;(try dsimp only)) | (k_end;kc_close) | (((with_reducible show wpAny _ _ (eval (Expr.Call _ _ _ _) _) _ _ _);(fail_if_success (with_reducible refine hasV (by assumption) ?_));refine cutV ?_;intro zqwetQ9 zqweth9)) | walk1 | (dsimp only;walk1) | (leave1;walk_say "STEP leave1";(try dsimp only)) | ((with_reducible first | refine CutT.next (by assumption) ?_ | refine CutT.ret (by assumption) ?_ | refine CutT.brk (by assumption) ?_ | refine CutT.cont (by assumption) ?_ | refine CutH.next (by assumption) ?_ | refine CutH.ret (by assumption) ?_ | refine CutH.brk (by assumption) ?_ | refine CutH.cont (by assumption) ?_ | refine CutV.go (by assumption) _ _ ?_ | refine CutH.go (by assumption) _ _ ?_);(try dsimp only)) | fail "no step")
  k_with "TokQ"=>((k_extra "gT";((rename tAt _ _=>zqweuhT9);(with_reducible show TokQ _ _ _);(refine TokQ.gen ?_);intro zqweuk' zqweuhk';(have zqweuhT8:=tAt.mk zqweuhk');clear zqweuhk';(try dsimp only))))
  k_with "exec If"=>((k_extra "gT";(k_here;(rename tAt _ _=>zqwevhT9);(refine ifT (Nat.le_trans zqwevhT9.le (by (try dsimp only);omega)) ?_))))
  trivial
section
variable {prog:Program} {w:World} {A:Around} {E:Value→Shared→Prop} {s:Shared} {h₀:Heap} {L D:Addr} {m:Str→Option Value} {news:List (Addr×Obj)} {its:Array Value} {n:Nat}
theorem appGetN {Q : Value → Shared → Prop} (F : Fr h₀ L s.heap m) (N : News h₀ L s.heap news) (hD : (D, listOf its n) ∈ news) (h : ∀ b h' tk, Fr h₀ L h' m → News h₀ L h' ((b, boundO D) :: news) → (∀ p ∈ news, p.1 < b) → Q (.ref b) { s with heap := h', toks := tk }) :
    wpAny (model prog w) A (getAttr (.ref D) (ofString "append") true) Q E s :=
  app_get (N _ hD).1 (h _ _ _ (F.push _) (N.push F _) fun p hp=>Heap.lt_size (N p hp).1)
end
example:True:=by
  k_with "getAttr ref"=>((k_extra "gT";(k_here;(with_reducible show wpAny _ _ (getAttr (Value.ref _) (ofString "append") true) _ _ _);k_dflt (refine' appGetN ?kwF ?kwN ?kwD ?_;(case kwF=>k_asm);(case kwN=>k_asm);(case kwD=>k_mem));intro zqwewb' zqwewh' zqwewtk' zqwewF' zqwewN' zqwewl1;(try k_lt zqwewl1))))
  trivial
noncomputable def TrJ (cs:List Nat) (segs:List Seg) (pl pg:Pos) (t ts tq:Tok) (n:Nat) (m:Str→Option Value) (news:List (Addr×Obj)):Prop :=
  ∃ (A B : List Seg) (i : Int) (ti tn : Tok) (D b : Addr) (its : Array Value) (cap : Nat) (ps : Array Value) (gm : Str → Option Value), segs = A ++ B ∧ n = B.length ∧ i = ((sgT A).length : Int) ∧
    m=setM [(ofString "pat",.str ⟨cs.toArray⟩ t),(ofString "STAR",.str (ofString "many") ts),(ofString "QUESTION_MARK",.str (ofString "any") tq),(ofString "res",.ref D),(ofString "add",.ref b),(ofString "i",.int i ti),(ofString "n",.int (cs.length:Int) tn)] gm ∧
    news=[(D,listOf its cap),(b,boundO D),(57,tabObj ps)]∧((@Ne Nat D b)∧(@Ne Nat D 57)∧(@Ne Nat b 57))∧T57 pl pg ps∧its.size≤A.length∧Its ts its.toList (sgP A)
noncomputable abbrev posL:Pos:={ line:=61,col:=39,endLine:=61,endCol:=76 }
noncomputable abbrev posG:Pos:={ line:=60,col:=37,endLine:=60,endCol:=98 }
example:True:=by
  k_with "exec While Compare"=>((k_extra "gT";(k_here;refine Stopped.go ?_)))
  k_with "truthy ref"=>((k_extra "gT";(k_here;(with_reducible show wpAny _ _ (truthy (Value.ref _)) _ _ _);k_dflt (first | (refine' truthLF ?kwN ?kwD ?kwe ?kwz ?_;(case kwN=>k_asm);(case kwD=>k_mem);(case kwe=>with_reducible assumption);(case kwz=>with_reducible assumption)) | (refine' truthLT ?kwN ?kwD ?kwe ?kwz ?_;(case kwN=>k_asm);(case kwD=>k_mem);(case kwe=>with_reducible assumption);(case kwz=>with_reducible assumption)));intro _)))
  k_with "subscriptTail Name UnaryOp ref int"=>((k_extra "gT";(k_here;(with_reducible show wpAny _ _ (subscriptTail _ _ (Value.ref _) (Value.int _ _)) _ _ _);k_dflt (refine' itemLast ?kwN ?kwD ?kwe ?_;(case kwN=>k_asm);(case kwD=>k_mem);(case kwe=>with_reducible assumption)))))
  k_with "compareOp IsNot str str"=>((k_extra "gT";(k_here;first | (with_reducible refine isNotSame (by with_reducible assumption) ?_) | (with_reducible refine isNotOther (by with_reducible assumption) (by with_reducible assumption) (by with_reducible assumption) (Fct.out (by with_reducible assumption)) ?_))))
  k_with "call ref"=>((k_extra "gT";(k_here;(with_reducible show wpAny _ _ (call (Value.ref _) [_]) _ _ _);k_dflt (refine' append_B ?kwF ?kwN ?kwb ?kwU ?_ ?kwz;(case kwF=>k_asm);(case kwN=>k_asm);(case kwb=>k_mem);(case kwU=>k_upd);(case kwz=>(rw [sizeLine_eq];omega)));intro zqwf1h' zqwf1F' zqwf1N';(try k_sweep))))
  k_with "call ref"=>((k_here;(refine cI (n:=55) (by with_reducible rfl) ?_);(rename tAt _ _=>zqwf2hT9);k_dflt (refine' (escape1 _ _ (by with_reducible assumption) (by with_reducible assumption)) ?kwB ?kwF ?kwX ?kwT ?kwc1 ?kwc2 ?kwc3 ?kwc4 ?kwd ?kwu ?_;(case kwB=>k_asm);(case kwF=>k_asm);(case kwX=>k_asm);(case kwT=>k_asm);(case kwc1=>exact rfl);(case kwc2=>exact rfl);(case kwc3=>first | exact rfl | assumption);(case kwc4=>first | exact rfl | assumption);(case kwd=>(k_extra "s1");(try dsimp only);omega);(case kwu=>(k_extra "s6");(try dsimp only);omega));intro zqwf2h' zqwf2t' zqwf2tk' zqwf2hk' zqwf2hz' zqwf2ht';clear zqwf2hz';(have zqwf2hV9:=TokV.mk (Nat.le_trans zqwf2hT9.le (Nat.le_trans (by (try dsimp only);omega) zqwf2ht')));clear zqwf2ht';walk_at "m_old";(try dsimp only)))
  k_with "callWith ref"=>((k_extra "gT";(k_here;(with_reducible show wpAny _ _ (callWith _ (Value.ref _) [] _ []) _ _ _);k_dflt (refine callWith_bnd (by with_reducible assumption) ?_))))
  k_with "And"=>((k_extra "gT";(k_here;(with_reducible show (_:Option Obj)=_∧_);(refine' And.intro ?kwhb9 ?_);(case kwhb9=>k_dflt (exact News.get (by k_asm) (by k_mem))))))
  trivial
theorem signNe {c k:Nat} (h : c≠k):((⟨#[c]⟩:Str) == ⟨#[k]⟩)=false:=by
  have:=strEq [c] [k]
  rw [this];simpa using h
theorem sign_many (c:Nat):(⟨#[c]⟩:Str)≠many:=by
  intros e
  have e2 : many=⟨#[109,97,110,121]⟩:=by decide +kernel
  rw [e2] at e
  simp at e
theorem any_many : anyS≠many:=by decide +kernel
theorem its_push {ts:Tok} {its:Array Value} {ps:List Str} {v:Value} {x:Str} (h:Its ts (its.toList++[v]) (ps++[x])):Its ts (its.push v).toList (ps++[x]):=by simpa using h
theorem len_star (A:List Seg) (g:Seg):((sgT A).length:Int)+(g.text.length:Int)=((sgT (A++[g])).length:Int):=by
  rw [segsText_append];simp [sgT]
example:True:=by
  k_with "eval JoinedStr"=>((k_extra "gT";(k_here;(rename tAt _ _=>zqwf5hT9);(refine toksJ (Nat.le_trans zqwf5hT9.le (by (try dsimp only);omega)) ?_);first | refine JoinedStr_many ?_ | refine JoinedStr_one ?_)))
  k_with "TokJ"=>((k_extra "gT";((with_reducible show TokJ _ _ _);(refine TokJ.gen ?_);intro zqwf6hj;(try (replace zqwf6hj:=zqwf6hj;dsimp only at zqwf6hj));(have zqwf6hV9:=TokV.mk (Nat.le_of_succ_le_succ zqwf6hj));clear zqwf6hj;(try dsimp only))))
  trivial
noncomputable def DshJ (cs pre:List Nat) (p q:Nat) (D b l:Addr) (its:Array Value) (cap:Nat) (ps:Array Value) (t ts tq:Tok) (j:Int) (i:Nat) (m:Str→Option Value) (news:List (Addr×Obj)):Prop :=
  ∃ (tn tj:Tok) (arr:Array Value) (ac:Nat) (gm:Str→Option Value),
    m=setM [(ofString "pat",.str ⟨cs.toArray⟩ t),(ofString "STAR",.str (ofString "many") ts),(ofString "QUESTION_MARK",.str (ofString "any") tq),(ofString "res",.ref D),(ofString "add",.ref b),(ofString "n",.int (cs.length:Int) tn),(ofString "j",.int j tj),(ofString "chunks",.ref l)] gm ∧
    news=[(l,listOf arr ac),(D,listOf its cap),(b,boundO D),(57,tabObj ps)] ∧
    ((i=1∧q < p∧∃ t1,arr=#[.str ⟨pre.toArray⟩ t1])∨((i=0∨p≤q)∧∃ t1 t2,arr=#[.str ⟨(pre++[p]).toArray⟩ t1,.str ⟨#[q]⟩ t2]))
theorem fstr1 (l:List Nat):Str.empty++ofString "["++(ofString "^"++(⟨l.toArray⟩:Str))++ofString "]"=⟨(91::(94::l++[93])).toArray⟩:=by
  have e1:ofString "["=⟨#[91]⟩:=by decide +kernel
  have e2:ofString "]"=⟨#[93]⟩:=by decide +kernel
  have e4:ofString "^"=⟨#[94]⟩:=by decide +kernel
  have e3:∀ a b:Str,(a++b)=⟨a.cps++b.cps⟩:=fun a b=>rfl
  rw [e1,e2,e4,e3,e3,e3,e3]
  congr 1
  show #[]++#[91]++(#[94]++l.toArray)++#[93]=_
  simp
theorem slice_tail {c:Nat} {l:List Nat}:Txt.slice ⟨(c::l).toArray⟩ (some 1) none=⟨l.toArray⟩:=by
  rw [eq_of_beq (slice_closes_fromL (x:=⟨(c::l).toArray⟩) (i:=1) (b:=(l.length:Int)+1) (by omega) (by simp [Str.length];omega) (by simp [Str.length]))]
  have e2:((l.length:Int)+1 - 1).toNat=l.length:=by omega
  rw [e2]
  simp
theorem any_sign {c:Nat} (h : 48≤c∧c≤57):([ofString "^",ofString "["].any fun x=>x == (⟨#[c]⟩:Str))=false:=by
  have e1:(ofString "^" == (⟨#[c]⟩:Str))=false:=signNe (c:=94) (by omega)
  have e2:(ofString "[" == (⟨#[c]⟩:Str))=false:=signNe (c:=91) (by omega)
  simp only [List.any_cons,List.any_nil,e1,e2,Bool.or_false]
theorem dig_of {c:Nat} (h : 48≤c∧c≤57):∃ k,k < 10∧c=48+k:=⟨c - 48,by omega,by omega⟩
theorem noHitA' {p:Nat} (h : p < 10) : noHit [48+p]=true∧noHit [33,48+p]=true:=by
  have:=List.all_eq_true.mp noHitA p (List.mem_range.mpr h)
  simpa using this
theorem noHitB' {p q:Nat} (h : p < 10) (h2 : q < 10) : noHit [48+p,48+q]=true∧noHit [33,48+p,48+q]=true∧noHit [48+p,45,48+q]=true∧noHit [33,48+p,45,48+q]=true:=by
  have:=List.all_eq_true.mp (List.all_eq_true.mp noHitB p (List.mem_range.mpr h)) q (List.mem_range.mpr h2)
  simp only [Bool.and_eq_true] at this
  exact ⟨this.1.1.1,this.1.1.2,this.1.2,this.2⟩
theorem noHit_both {ds:List Nat} (hl : ds.length=1∨ds.length=2) (h:∀ c∈ds,48≤c∧c≤57) : noHit ds=true∧noHit (33::ds)=true:=by
  match ds,hl with
  | [a],_ =>
    obtain ⟨k,hk,rfl⟩:=dig_of (h a (by simp))
    exact noHitA' hk
  | [a,c],_ =>
    obtain ⟨k,hk,rfl⟩:=dig_of (h a (by simp))
    obtain ⟨l,hl,rfl⟩:=dig_of (h c (by simp))
    exact ⟨(noHitB' hk hl).1,(noHitB' hk hl).2.1⟩
theorem noHit_ds0 {ds:List Nat} (hl : ds.length=1∨ds.length=2) (h:∀ c∈ds,48≤c∧c≤57) : noHit ds=true:=(noHit_both hl h).1
theorem noHit_ds1 {ds:List Nat} (hl : ds.length=1∨ds.length=2) (h:∀ c∈ds,48≤c∧c≤57) : noHit (33::ds)=true:=(noHit_both hl h).2
theorem hbrk (g : Seg) (hg : g.ok) : g = .star ∨ g = .ques ∨ (∃ c, g = .sign c) ∨ ∃ neg bs, g.text = 91 :: ((if neg then [33] else []) ++ bs ++ [93]) ∧ 0 < bs.length ∧ (∀ c ∈ bs, c ≠ 33 ∧ c ≠ 93) ∧
    ((∃ ds,g=.cls neg bs∧ds=bs∧(bs.length=1∨bs.length=2)∧∀ c∈bs,48≤c∧c≤57)∨(∃ p q,g=.rng neg p q∧bs=[p,45,q]∧(48≤p∧p≤57)∧(48≤q∧q≤57))):=by
  cases g with
  | star=>exact .inl rfl
  | ques=>exact .inr (.inl rfl)
  | sign c=>exact .inr (.inr (.inl ⟨c,rfl⟩))
  | cls neg ds =>
    obtain ⟨h1,h2⟩:=hg
    exact .inr (.inr (.inr ⟨neg,ds,rfl,by omega,fun c hc=>by have:=h2 c hc;omega,.inl ⟨ds,rfl,rfl,h1,h2⟩⟩))
  | rng neg p q =>
    obtain ⟨h1,h2⟩:=hg
    refine .inr (.inr (.inr ⟨neg,[p,45,q],rfl,by simp,fun c hc=>?_,.inr ⟨p,q,rfl,rfl,h1,h2⟩⟩))
    simp at hc
    omega
theorem fstr (l:List Nat):Str.empty++ofString "["++(⟨l.toArray⟩:Str)++ofString "]"=⟨(91::(l++[93])).toArray⟩:=by
  have e1:ofString "["=⟨#[91]⟩:=by decide +kernel
  have e2:ofString "]"=⟨#[93]⟩:=by decide +kernel
  have e3:∀ a b:Str,(a++b)=⟨a.cps++b.cps⟩:=fun a b=>rfl
  rw [e1,e2,e3,e3,e3]
  congr 1
  show #[]++#[91]++l.toArray++#[93]=_
  simp
theorem brk_many (l:List Nat):(⟨(91::l).toArray⟩:Str)≠many:=by
  intros e
  have e2 : many=⟨[109,97,110,121].toArray⟩:=by decide +kernel
  rw [e2] at e
  simp at e
theorem slice_seg {cs A Z Y:List Nat} {u:Nat} (hc:∃ B,cs=A++(Z++B)) (h0 : 0 < Y.length) (hy:(Z.drop u).take Y.length=Y) (i j:Int) (hi : i=(A.length:Int)+u) (hj : j=i+Y.length):Txt.slice ⟨cs.toArray⟩ (some i) (some j)=⟨Y.toArray⟩:=by
  obtain ⟨B,rfl⟩:=hc
  have hyl : u+Y.length≤Z.length∨Y.length=0:=by
    have:=congrArg List.length hy
    simp only [List.length_take,List.length_drop] at this
    omega
  subst hi hj
  have hzl : u+Y.length≤Z.length:=by omega
  rw [eq_of_beq (slice_closesL (x:=⟨(A++(Z++B)).toArray⟩) (by omega) (by omega) (by simp [Str.length];omega))]
  have e1:((A.length:Int)+u).toNat=A.length+u:=by omega
  have e2:((A.length:Int)+u+Y.length - ((A.length:Int)+u)).toNat=Y.length:=by omega
  rw [e1,e2]
  have e3:(List.take Y.length (List.drop (A.length+u) (A++(Z++B))))=Y:=by
    rw [← List.drop_drop,List.drop_left,List.drop_append_of_le_length (by omega),List.take_append_of_le_length (by simp;omega)]
    exact hy
  simp only [List.toList_toArray,e3]
noncomputable def BrJ (cs:List Nat) (len:Nat) (ι β:Int) (D b:Addr) (its:Array Value) (cap:Nat) (ps:Array Value) (t ts tq:Tok) (v:Nat) (m:Str→Option Value) (news:List (Addr×Obj)):Prop :=
  ∃ (j : Int) (ti tn tj : Tok) (gm : Str → Option Value), v ≤ len ∧ j = β + ((len - v : Nat) : Int) ∧
    m=setM [(ofString "pat",.str ⟨cs.toArray⟩ t),(ofString "STAR",.str (ofString "many") ts),(ofString "QUESTION_MARK",.str (ofString "any") tq),(ofString "res",.ref D),(ofString "add",.ref b),(ofString "i",.int ι ti),(ofString "n",.int (cs.length:Int) tn),(ofString "j",.int j tj)] gm ∧
    news=[(D,listOf its cap),(b,boundO D),(57,tabObj ps)]
theorem brk_at {pre bs:List Nat} {u:Nat} (h : u < bs.length):(91::(pre++bs++[93]))[pre.length+1+u]?=bs[u]?:=by
  rw [show pre.length+1+u=(pre.length+u)+1 by omega,List.getElem?_cons_succ,List.append_assoc,List.getElem?_append_right (by omega),Nat.add_sub_cancel_left,List.getElem?_append_left h]
theorem brk_end {pre bs:List Nat}:(91::(pre++bs++[93]))[pre.length+1+bs.length]?=some 93:=by
  rw [show pre.length+1+bs.length=(pre.length+bs.length)+1 by omega,List.getElem?_cons_succ,← List.length_append,List.getElem?_append_right (by omega)]
  simp
theorem signBne {c k:Nat} (h : c≠k):((⟨#[c]⟩:Str) != ⟨#[k]⟩)=true:=by
  show (!((⟨#[c]⟩:Str) == ⟨#[k]⟩))=true
  rw [signNe h];rfl
theorem item_seg {cs:List Nat} {A Z:List Nat} {k:Nat} {c:Nat} (hc:∃ B,cs=A++(Z++B)) (hk:Z[k]?=some c) (i:Int) (hi : i=(A.length:Int)+k):Txt.item ⟨cs.toArray⟩ i=⟨#[c]⟩:=by
  obtain ⟨B,rfl⟩:=hc
  have hlt : k < Z.length:=by
    rcases Nat.lt_or_ge k Z.length with h | h
    · exact h
    · rw [List.getElem?_eq_none h] at hk;cases hk
  subst hi
  rw [itemN _ (by omega) (by simp;omega)]
  have e:((A.length:Int)+k).toNat=A.length+k:=by omega
  rw [e,List.getD_eq_getElem?_getD,List.getElem?_append_right (by omega),Nat.add_sub_cancel_left,List.getElem?_append_left hlt,hk]
  rfl
example:True:=by
  k_with "exec While"=>((k_extra "gT";(k_here;k_dflt (refine whl_start 4 ?_))))
  k_with "exec While BoolOp"=>((k_extra "gT";(k_here;refine Stopped.go ?_)))
  k_with "eval GeneratorExp"=>((k_extra "gT";(k_here;refine Stopped.go ?_)))
  k_with "call builtin:str.join"=>((k_extra "gT";(k_here;(with_reducible show wpAny _ _ (call (Value.builtin "str.join") [Value.str _ _,Value.ref _]) _ _ _);k_dflt (refine' join_NE ?kwe ?kwok ?kwF ?kwN ?kwG ?kwX ?_ ?kwz;(case kwX=>assumption);(case kwe=>with_reducible assumption);(case kwok=>with_reducible assumption);(case kwF=>k_asm);(case kwN=>k_asm);(case kwG=>assumption);(case kwz=>(rw [sizeLine_eq];exact Nat.le_of_ble_eq_true rfl)));intro _ _ _ _ _ _ _ _)))
  k_with "k_off"=>((repeat (first | exact List.forall_mem_nil _ | refine List.forall_mem_cons.mpr ⟨by (show @Ne Nat _ _);first | assumption | omega,?_⟩)))
  trivial
example:True:=by
  k_with "subscriptTail"=>((k_extra "gT";(k_here;(with_reducible show wpAny _ _ (subscriptTail _ (Expr.Slice (some _) none none _) (Value.str _ _) (Value.ref _)) _ _ _);k_dflt (refine' sliceE_sn (hsz:=?kwhsz) (s:=⟨_,_,_,_,_⟩) ?kwe ?kwF ?kwN ?_;(case kwe=>with_reducible assumption);(case kwF=>k_asm);(case kwN=>k_asm);(case kwhsz=>size_fits));intro _ _ _ _ _;k_sweep)))
  k_with "subscriptTail"=>((k_extra "gT";(k_here;(with_reducible show wpAny _ _ (subscriptTail _ (Expr.Slice none (some _) none _) (Value.str _ _) (Value.ref _)) _ _ _);k_dflt (refine' sliceE_ns (hsz:=?kwhsz) (s:=⟨_,_,_,_,_⟩) ?kwe ?kwF ?kwN ?_;(case kwe=>with_reducible assumption);(case kwF=>k_asm);(case kwN=>k_asm);(case kwhsz=>size_fits));intro _ _ _ _ _;k_sweep)))
  k_with "subscriptTail"=>((k_extra "gT";(k_here;(with_reducible show wpAny _ _ (subscriptTail _ _ (Value.ref _) (Value.int _ _)) _ _ _);k_dflt (first | (refine' itemA0 ?kwN ?kwD ?kwa ?_;(case kwa=>decide);(case kwN=>k_asm);(case kwD=>k_mem)) | (refine' itemA1 ?kwN ?kwD ?kwa ?_;(case kwa=>decide);(case kwN=>k_asm);(case kwD=>k_mem))))))
  k_with "subscriptTail"=>((k_extra "gT";(k_here;(with_reducible show wpAny _ _ (subscriptTail _ _ (Value.str _ _) (Value.int _ _)) _ _ _);(with_reducible refine' itemE (hs:=?kwhs) (ht:=?kwht) ?kwe ?kwr ?kwa ?kwb ?_);(case kwhs=>with_unfolding_all exact rfl);(case kwht=>with_unfolding_all exact fun _=>rfl);k_dflt ((case kwe=>with_reducible assumption);(case kwr=>first | decide | with_reducible assumption);(case kwa=>first | exact of_decide_eq_true rfl | omega);(case kwb=>first | exact of_decide_eq_true rfl | omega));intro _ _)))
  k_with "subscriptTail Name BinOp ref int"=>((k_extra "gT";(k_here;(with_reducible show wpAny _ _ (subscriptTail _ _ (Value.ref _) (Value.int _ _)) _ _ _);k_dflt (first | (refine' itemA0 ?kwN ?kwD ?kwa ?_;(case kwa=>decide);(case kwN=>k_asm);(case kwD=>k_mem)) | (refine' itemA1 ?kwN ?kwD ?kwa ?_;(case kwa=>decide);(case kwN=>k_asm);(case kwD=>k_mem))))))
  k_with "subscriptTail Name Name ref int"=>((k_extra "gT";(k_here;(with_reducible show wpAny _ _ (subscriptTail _ _ (Value.ref _) (Value.int _ _)) _ _ _);k_dflt (first | (refine' itemA0 ?kwN ?kwD ?kwa ?_;(case kwa=>decide);(case kwN=>k_asm);(case kwD=>k_mem)) | (refine' itemA1 ?kwN ?kwD ?kwa ?_;(case kwa=>decide);(case kwN=>k_asm);(case kwD=>k_mem))))))
  k_with "exec For Name Call cons nil"=>((k_extra "gT";(k_here;refine Stopped.go ?_)))
  k_with "call builtin:list.append"=>((k_extra "gT";(k_here;(with_reducible show wpAny _ _ (call (Value.builtin "list.append") [Value.ref _,_]) _ _ _);k_dflt (refine' append_K ?kwk1 ?kwk2 ?kwk3 ?_ ?kwz;(case kwk1=>k_asm);(case kwk2=>k_asm);(case kwk3=>k_upd);(case kwz=>first | exact Nat.le_of_ble_eq_true rfl | (rw [sizeLine_eq];decide)));intro zqwfjh' zqwfjF' zqwfjN')))
  k_with "ite"=>((k_extra "gT";(k_here;first | refine ite_pos (Fct.out (by with_reducible assumption)) ?_ | refine ite_neg (ne_true_of (Fct.out (by with_reducible assumption))) ?_ | refine ite_neg (Fct.out (by with_reducible assumption)) ?_ | (with_reducible refine ite_pos rfl ?_) | (with_reducible refine ite_neg Bool.false_ne_true ?_))))
  k_with "call builtin:str.find"=>((k_extra "gT";(k_here;(with_reducible show wpAny _ _ (call (Value.builtin "str.find") [Value.str _ _,Value.str _ _,Value.int _ _,Value.int _ _]) _ _ _);refine find4 (by omega) (by omega) (by with_reducible assumption) ?_)))
  k_with "eval Lambda"=>((k_extra "gT";(k_here;k_dflt (refine' kla_eval ?kwd0 ?_;(case kwd0=>exact rfl));k_dflt (refine' lamT ?kwF ?kwN ?kwT ?kwC ?kwcd ?kwU ?kwt ?kwn ?kwcl ?_;(case kwF=>k_asm);(case kwN=>k_asm);(case kwT=>k_asm);(case kwcd=>exact rfl);(case kwC=>with_reducible assumption);(case kwU=>k_updF);(case kwt=>with_reducible assumption);(case kwn=>decide);(case kwcl=>exact rfl);k_whole);intro zqwfmf' zqwfmo' zqwfmh' zqwfmtk' zqwfmps' zqwfmho' zqwfmh57' zqwfmF' zqwfmN' zqwfml1;(try (replace zqwfmN':=zqwfmN';dsimp only at zqwfmN'));(try k_lt zqwfml1))))
  k_with "call builtin:str.replace"=>((k_extra "gT";(k_here;(with_reducible show wpAny _ _ (call (Value.builtin "str.replace") [Value.str _ _,Value.str _ _,Value.str _ _]) _ _ _);refine replaceNo (by with_reducible assumption) ?_)))
  k_with "getMethod ref"=>((k_extra "gT";(k_here;(with_reducible show wpAny _ _ (getMethod (Value.ref _) (ofString "append") _) _ _ _);k_dflt (refine' listMethod_K ?kwN ?kwm PySem.F.slot_list_append PySem.F.type_list_append ?_;(case kwN=>k_asm);(case kwm=>k_mem)))))
  k_with "getMethod ref"=>((k_extra "gT";(k_here;(with_reducible show wpAny _ _ (getMethod (Value.ref _) (ofString "sub") _) _ _ _);(rename Frag.In _ _=>zqwfpX9);(rename Fr _ _ _ _=>zqwfpF9);k_dflt (refine gmSub ((zqwfpX9.keeps zqwfpF9.keep) 43 _ (show (Mine.hd.heap_1 _).lookup 43=some _ from rfl)) rfl rfl ?_))))
  k_with "call builtin:re.Pattern.sub"=>((k_extra "gT";(k_here;k_dflt (refine' sub_noneE (T:=_) ?kwX ?kwF ?kwN ?kwf ?kwc ?kwx ?kwn ?kwz ?_;(case kwx=>first | exact emp_eq | exact bang_eq);(case kwX=>k_asm);(case kwF=>k_asm);(case kwN=>k_asm);(case kwf=>k_mem);(case kwc=>with_reducible assumption);(case kwn=>first | exact noHit0.1 | exact noHit0.2);(case kwz=>decide));intro _ _ _ _ _)))
  k_with "call builtin:re.Pattern.sub"=>((k_extra "gT";(k_here;k_dflt (refine' sub_none ?kwX ?kwF ?kwN ?kwf ?kwc ?kwn ?kwz ?_;(case kwX=>k_asm);(case kwF=>k_asm);(case kwN=>k_asm);(case kwf=>k_mem);(case kwc=>with_reducible assumption);(case kwn=>exact Fct.out (by with_reducible assumption));(case kwz=>with_reducible assumption));intro _ _ _ _ _)))
  trivial
noncomputable def translate_S (segs:List Seg) (t ts tq:Tok):Prop:=∀ (hok:∀ g∈segs,g.ok) (hl:(sgT segs).length≤50) (h0 : ts≠0) (htq : ts < tq),SpecT 62 8 [.str ⟨(sgT segs).toArray⟩ t,.str (ofString "many") ts,.str (ofString "any") tq] (ts+2) (PNew fun o=>∃ its n,o=listOf its n∧Its ts its.toList (sgP segs)) (fun mv=>∃ ps,mv=[(57,tabObj ps)]∧T57 posL posG ps) (fun mv=>∃ ps,mv=[(57,tabObj ps)]∧T57 posL posG ps)
theorem translate_P:∀ (segs:List Seg) (t ts tq:Tok),translate_S segs t ts tq:=by
  intro segs t ts tq
  intros hok hl h0 htq
  refine @ctxT _ _ _ _ _ _ _ ?_;generalize CtxQ.prog _=prog;generalize CtxQ.w _=w;generalize CtxQ.p _=p;generalize CtxQ.loose _=loose;generalize CtxQ.mean _=mean;generalize CtxQ.mg _=mg;generalize CtxQ.mb _=mb;generalize CtxQ.env _=env;generalize CtxQ.outer _=outer;generalize CtxQ.A₀ _=A₀;generalize CtxQ.base _=base;generalize CtxQ.h₀ _=h₀;generalize CtxQ.L _=L;generalize CtxQ.m _=m;generalize CtxQ.s _=s;generalize CtxQ.Q _=Q;generalize CtxQ.E _=E;generalize CtxQ.dp _=dp;generalize CtxQ.gd _=gd;generalize CtxQ.un _=un;generalize CtxQ.mv _=mv
  intros B F Nm hO X T hG hf hke hdp hun hpre hret
  refine wpAny_call ?_
  ((first | refine exE hO ?_ | refine aE hO ?_);clear hO;intro ps;intro zz;k_extra "e";intro zo62;intro hps;subst zo62)
  have hT:tAt (ts+2) s.toks:=⟨hpre⟩
  have hlen:(⟨(sgT segs).toArray⟩:Str).length≤50:=by simpa [Str.length] using hl
  k_dflt refine' enterM (binds:=[(ofString "pat",.str ⟨(sgT segs).toArray⟩ t),(ofString "STAR",.str (ofString "many") ts),(ofString "QUESTION_MARK",.str (ofString "any") tq)]) B F Nm X T rfl hf hke ?k6 ?k7 ?k8 ?k9 ?kB ?c5 ?c2 ?c3 ?c4 ?_
  walk_at "m_fill"
  clear F X T B hf hke
  intro g L' h₁ hg F N B X T hlt hsz;(try dsimp only)
  have C:=codeHd_of_K (c:=61) (P:=57) X (by kernel_rfl)
  k_lt hlt
  k_steps
  show wpAny _ _ _ _ _ _
  (rename Fr _ _ _ _=>F5);(rename News _ _ _ _=>N5)
  have hsz0:=hsz
  (rename tAt _ _=>hT9)
  with_unfolding_all refine While_invX (τ:=ts+2) (TrJ (sgT segs) segs posL posG t ts tq) (n₀:=segs.length) hT9.le hG F5 (nsO N5 (mv:=[(_,W.listOf #[] 0),(_,boundO _),(57,tabObj ps)]) (by lcg_sub)) ⟨[],segs,0,_,_,_,_,#[],0,ps,_,rfl,rfl,rfl,by walk_at "k_canon",rfl,⟨by (show @Ne Nat _ _);omega,by (show @Ne Nat _ _);omega,by (show @Ne Nat _ _);omega⟩,hps,Nat.le_refl _,.nil⟩ ?b
  case b =>
    clear F5 N5 hT9
    (intro n m₁ news₁ h₁ g₁ d₁ tk₁ hτ G' F' N' zo68;(first | refine exE zo68 ?_ | refine aE zo68 ?_);clear zo68;intro A zz;k_extra "e";intro B' zz;k_extra "e";intro i zz;k_extra "e";intro ti zz;k_extra "e";intro tn zz;k_extra "e";intro D zz;k_extra "e";intro b zz;k_extra "e";intro its zz;k_extra "e";intro cap zz;k_extra "e";intro ps' zz;k_extra "e";intro gm zz;k_extra "e";intro hs zz;k_extra "e";intro zo69 zz;subst zo69;k_extra "e";intro zo70 zz;subst zo70;k_extra "e";intro zo71 zz;subst zo71;k_extra "e";intro zo72 zz;subst zo72;k_extra "e";intro zo73 zz;(first | refine exE zo73 ?_ | refine aE zo73 ?_);clear zo73;intro n1 zz;k_extra "e";intro n2 n3;k_extra "e";intro hps' zz;k_extra "e";intro hsz hI)
    have hT9:tAt (ts+2) tk₁:=⟨hτ⟩
    clear hτ
    have hbd:BndAt b D:=⟨⟩
    have hlA:A.length≤segs.length:=by rw [hs];simp
    have hls:=segsText_len segs
    have hz100 : its.size≤100:=by omega
    refine or2E (list_or B') ?alo47_0 ?alo47_1
    case alo47_0 =>
      intro zo48;subst zo48
      have hd:Fct (decide (((sgT A).length:Int) < ((sgT segs).length:Int))=false):=⟨by rw [hs];simp⟩
      have hd2:Fct ((((sgT A).length:Int) == ((sgT segs).length:Int))=true):=⟨by rw [hs];simp⟩
      k_steps
      (rename Fr _ _ _ _=>F6);(rename News _ _ _ _=>N6)
      subst hg
      refine hret _ _ _ _ _ [(57,tabObj ps')] F6.keep (Nat.le_trans hsz0 (Nat.le_of_lt F6.ns.lt)) (mvOut_of N6 (by lcg_sub)) ⟨_,rfl,hps'⟩ G' ?_
      have e0 : segs=A:=by rw [hs];simp
      rw [e0]
      exact pnew_of N6 (by k_mem) ⟨_,_,rfl,hI⟩
    case alo47_1 =>
      intro zo49;(first | refine exE zo49 ?_ | refine aE zo49 ?_);clear zo49;intro g0;intro zz;k_extra "e";intro B';intro zo50;subst zo50
      have hcs : sgT segs=sgT A++(g0.text++sgT B'):=by rw [hs,segsText_append,segsText_cons]
      have hg:=hok g0 (by rw [hs];simp)
      have hln:=congrArg List.length hcs
      (replace hln:=hln;simp only [List.length_append] at hln)
      have hp:=text_pos g0
      have hlx:(⟨(sgT segs).toArray⟩:Str).length=(sgT segs).length:=by simp [Str.length]
      have hd:Fct (decide (((sgT A).length:Int) < ((sgT segs).length:Int))=true):=⟨by simp;omega⟩
      have hr : fitsSsize ((sgT A).length:Int)=true:=by unfold fitsSsize;simp;omega
      (refine or4E (hbrk g0 hg) ?alo1_0 ?alo1_1 ?alo1_2 ?alo1_3;(case' alo1_3=>(intro zo2;(first | refine exE zo2 ?_ | refine aE zo2 ?_);clear zo2;intro neg;intro zz;k_extra "e";intro bs;intro zz;k_extra "e";intro htx;intro zz;k_extra "e";intro hb0;intro zz;k_extra "e";intro hbc;intro hkind));(case' alo1_2=>(intro zo3;(first | refine exE zo3 ?_ | refine aE zo3 ?_);clear zo3;intro c;intro zo4;subst zo4));(case' alo1_1=>(intro zo5;subst zo5));(case' alo1_0=>(intro zo6;subst zo6)))
      · have hy : Fct (Txt.item ⟨(sgT segs).toArray⟩ ((sgT A).length : Int) = ofString "*") := ⟨by rw [hcs]; exact item_at⟩
        have y1:Fct ((ofString "*" == ofString "*")=true):=⟨by decide⟩
        have v1 : ts≠0:=h0
        (refine or3E (hI.last) ?alo7_0 ?alo7_1 ?alo7_2;(case' alo7_2=>(intro zo8;(first | refine exE zo8 ?_ | refine aE zo8 ?_);clear zo8;intro us;intro zz;k_extra "e";intro qs;intro zz;k_extra "e";intro x;intro zz;k_extra "e";intro tx;intro zz;k_extra "e";intro e1;intro zz;k_extra "e";intro e2;intro zz;k_extra "e";intro hx;intro htx));(case' alo7_1=>(intro zo9;(first | refine exE zo9 ?_ | refine aE zo9 ?_);clear zo9;intro us;intro zz;k_extra "e";intro qs;intro zz;k_extra "e";intro e1;intro e2));(case' alo7_0=>(intro zo10;(first | refine exE zo10 ?_ | refine aE zo10 ?_);clear zo10;intro e1;intro e2)))
        · have he : Fct (its.isEmpty = true) := ⟨by cases its; (replace e1 := e1; simp at e1); subst e1; rfl⟩
          k_steps
          (rename Fr _ _ _ _=>F6);(rename News _ _ _ _=>N6);(rename tAt _ _=>hT6)
          k_extra "r28"
          (case hi=>exact len_star A (.star))
          (case sz=>simp;omega)
          (case its=>rw [sgS];show Its ts _ (if _ then _ else _);rw [if_neg (by rw [e2];simp)];exact its_push (.star hI))
        · have he : Fct (its.isEmpty = false) := ⟨by cases its; (replace e1 := e1; simp at e1); subst e1; simp⟩
          have hb:Fct (its.back?=some (.str (ofString "many") ts)):=⟨by cases its;(replace e1:=e1;simp at e1);subst e1;simp [many]⟩
          k_steps
          (rename Fr _ _ _ _=>F6);(rename News _ _ _ _=>N6);(rename tAt _ _=>hT6)
          k_extra "r28"
          (case hi=>exact len_star A (.star))
          (case sz=>simp;omega)
          (case its=>rw [sgS];show Its ts _ (if _ then _ else _);rw [if_pos (by rw [e2];simp)];exact hI)
        · have he : Fct (its.isEmpty = false) := ⟨by cases its; (replace e1 := e1; simp at e1); subst e1; simp⟩
          have hb:Fct (its.back?=some (.str x tx)):=⟨by cases its;(replace e1:=e1;simp at e1);subst e1;simp⟩
          have hxm:Fct ((x == ofString "many")=false):=⟨by simpa [many] using hx⟩
          have v2 : tx≠0:=Nat.ne_of_gt (Nat.lt_of_le_of_lt (Nat.zero_le _) htx)
          have v3 : tx≠ts:=Nat.ne_of_gt htx
          k_steps
          (rename Fr _ _ _ _=>F6);(rename News _ _ _ _=>N6);(rename tAt _ _=>hT6)
          k_extra "r28"
          (case hi=>exact len_star A (.star))
          (case sz=>simp;omega)
          (case its=>rw [sgS];show Its ts _ (if _ then _ else _);rw [if_neg (by rw [e2];simpa using hx)];exact its_push (.star hI))
      · have hy : Fct (Txt.item ⟨(sgT segs).toArray⟩ ((sgT A).length : Int) = ofString "?") := ⟨by rw [hcs]; exact item_at⟩
        have y1:Fct ((ofString "?" == ofString "*")=false):=⟨by decide⟩
        have y2:Fct ((ofString "?" == ofString "?")=true):=⟨by decide⟩
        k_steps
        (rename Fr _ _ _ _=>F6);(rename News _ _ _ _=>N6);(rename tAt _ _=>hT6)
        refine ⟨rfl,_,_,_,_,_,_,B'.length,rfl,hT6.le,G',F6,N6,by simp,⟨A++[.ques],B',_,_,_,D,b,_,_,_,_,by rw [hs];simp,rfl,?hi,by walk_at "k_canon",rfl,⟨n1,n2,n3⟩,hps',?sz,?its⟩⟩
        (case hi=>exact len_star A (.ques))
        (case sz=>simp;omega)
        (case its=>rw [sgS];exact its_push (.other _ _ any_many htq hI))
      · ((first | refine exE hg ?_ | refine aE hg ?_); clear hg; intro c1; intro c2)
        have hy:Fct (Txt.item ⟨(sgT segs).toArray⟩ ((sgT A).length:Int)=⟨#[c]⟩):=⟨by rw [hcs];exact item_at⟩
        have y1:Fct (((⟨#[c]⟩:Str) == ofString "*")=false):=⟨signNe (k:=42) (by omega)⟩
        have y2:Fct (((⟨#[c]⟩:Str) == ofString "?")=false):=⟨signNe (k:=63) (by omega)⟩
        have y3:Fct (((⟨#[c]⟩:Str) == ofString "[")=false):=⟨signNe (k:=91) (by omega)⟩
        k_steps
        (rename TokV _ _=>hV6)
        (rename Fr _ _ _ _=>F6);(rename News _ _ _ _=>N6);(rename tAt _ _=>hT6)
        refine ⟨rfl,_,_,_,_,_,_,B'.length,rfl,hT6.le,G',F6,N6,by simp,⟨A++[(.sign c)],B',_,_,_,D,b,_,_,_,_,by rw [hs];simp,rfl,?hi,by walk_at "k_canon",rfl,⟨n1,n2,n3⟩,hps',?sz,?its⟩⟩
        (case hi=>exact len_star A ((.sign c)))
        (case sz=>simp;omega)
        (case its=>rw [sgS];exact its_push (.other _ _ (sign_many c) (Nat.lt_of_lt_of_le (by omega) hV6.le) hI))
      · have hZ : ∃ B, sgT segs = sgT A ++ (g0.text ++ B) := ⟨_, hcs⟩
        have hy:Fct (Txt.item ⟨(sgT segs).toArray⟩ (((sgT A).length:Int))=ofString "["):=⟨item_seg (k:=0) hZ (by rw [htx];rfl) _ (by simp)⟩
        have y1:Fct ((ofString "[" == ofString "*")=false):=⟨by decide⟩
        have y2:Fct ((ofString "[" == ofString "?")=false):=⟨by decide⟩
        have y3:Fct ((ofString "[" == ofString "[")=true):=⟨by decide⟩
        have hlt : g0.text.length=(if neg then 1 else 0)+bs.length+2:=by rw [htx];cases neg<;>simp<;>omega
        have hd2:Fct (decide ((((sgT A).length:Int)+1) < ((sgT segs).length:Int))=true):=⟨by simp;omega⟩
        have hr2 : fitsSsize (((sgT A).length:Int)+1)=true:=by unfold fitsSsize;simp;omega
        (have zo63:∃ c0,bs[0]?=some c0:=⟨bs[0],by simp [hb0]⟩);((first | refine exE zo63 ?_ | refine aE zo63 ?_);clear zo63;intro c0;intro hc0)
        have hc0m:=hbc c0 (List.mem_of_getElem? hc0)
        refine or2E (bool_or neg) ?alo51_0 ?alo51_1
        case alo51_0 =>
          intro zo52;subst zo52
          replace hlt : g0.text.length=0+bs.length+2:=hlt
          have z1:Fct (Txt.item ⟨(sgT segs).toArray⟩ (((sgT A).length:Int)+1)=⟨#[c0]⟩):=⟨item_seg (k:=1) hZ (by rw [htx];exact (brk_at (pre:=[]) (u:=0) hb0).trans hc0) _ (by simp)⟩
          have z2:Fct (((⟨#[c0]⟩:Str) == ofString "!")=false):=⟨signNe (k:=33) hc0m.1⟩
          have z3:Fct (((⟨#[c0]⟩:Str) == ofString "]")=false):=⟨signNe (k:=93) hc0m.2⟩
          k_steps
          show wpAny _ _ _ _ _ _
          (rename Fr _ _ _ _=>F5);(rename News _ _ _ _=>N5);(rename tAt _ _=>hT5)
          with_unfolding_all refine While_invX (τ:=ts+2) (BrJ (sgT segs) bs.length (((sgT A).length:Int)+1) (((sgT A).length:Int)+1) D b its cap ps' t ts tq) (n₀:=bs.length) hT5.le G' F5 (nsO N5 (mv:=[(D,listOf its cap),(b,boundO D),(57,tabObj ps')]) (by lcg_sub)) ⟨((sgT A).length:Int)+1,_,_,_,_,Nat.le_refl _,(by simp),by walk_at "k_canon",rfl⟩ ?w
          case w =>
            clear F5 N5 hT5
            (intro v m2 news2 h2 g2 d2 tk2 hτ2 G2 F2 N2 zo74;(first | refine exE zo74 ?_ | refine aE zo74 ?_);clear zo74;intro j zz;k_extra "e";intro ti2 zz;k_extra "e";intro tn2 zz;k_extra "e";intro tj zz;k_extra "e";intro gm2 zz;k_extra "e";intro hv zz;k_extra "e";intro hj zz;k_extra "e";intro zo75 zo76;subst zo75;subst zo76)
            have hT9:tAt (ts+2) tk2:=⟨hτ2⟩
            clear hτ2
            have hj1:Fct (decide (j < ((sgT segs).length:Int))=true):=⟨by simp;omega⟩
            have hj2 : fitsSsize j=true:=by unfold fitsSsize;simp;omega
            have hj3:Fct (decide (j ≥ ((sgT segs).length:Int))=false):=⟨by simp;omega⟩
            refine or2E (Or.symm (nat_or v)) ?alo54_0 ?alo54_1
            case alo54_0 =>
              intro zo55;(first | refine exE zo55 ?_ | refine aE zo55 ?_);clear zo55;intro v;intro zo56;subst zo56
              (have zo64:∃ c1,bs[bs.length - (v+1)]?=some c1:=⟨_,List.getElem?_eq_getElem (by omega)⟩);((first | refine exE zo64 ?_ | refine aE zo64 ?_);clear zo64;intro c1;intro hc1)
              have hc1m:=hbc c1 (List.mem_of_getElem? hc1)
              have w1:Fct (Txt.item ⟨(sgT segs).toArray⟩ j=⟨#[c1]⟩):=⟨item_seg (k:=1+(bs.length - (v+1))) hZ (by rw [htx];exact (brk_at (pre:=[]) (by omega)).trans hc1) _ (by rw [hj];omega)⟩
              have w2:Fct (((⟨#[c1]⟩:Str) != ofString "]")=true):=⟨signBne (k:=93) hc1m.2⟩
              k_steps
              (rename Fr _ _ _ _=>F6);(rename News _ _ _ _=>N6);(rename tAt _ _=>hT6)
              k_extra "r29"
            case alo54_1 =>
              intro zo57;subst zo57
              have w1:Fct (Txt.item ⟨(sgT segs).toArray⟩ j=ofString "]"):=⟨item_seg (k:=1+bs.length) hZ (by rw [htx];exact brk_end (pre:=[])) _ (by rw [hj];omega)⟩
              have w2:Fct ((ofString "]" != ofString "]")=false):=⟨by decide⟩
              (refine or2E hkind ?alo11_0 ?alo11_1;(case' alo11_1=>(clear hkind;intro zo12;(first | refine exE zo12 ?_ | refine aE zo12 ?_);clear zo12;intro p;intro zz;k_extra "e";intro q;intro zz;k_extra "e";intro hg0;intro zz;k_extra "e";intro zo13;intro zz;subst zo13;k_extra "e";intro hp9;intro hq9));(case' alo11_0=>(clear hkind;intro zo14;(first | refine exE zo14 ?_ | refine aE zo14 ?_);clear zo14;intro ds;intro zz;k_extra "e";intro hg0;intro zz;k_extra "e";intro zo15;intro zz;subst zo15;k_extra "e";intro hdl;intro hdg)))
              · have hc0d := hdg c0 (List.mem_of_getElem? hc0)
                have sl:Fct (Txt.slice ⟨(sgT segs).toArray⟩ (some (((sgT A).length:Int)+1)) (some j)=⟨ds.toArray⟩):=⟨slice_seg (u:=1) (Y:=ds) hZ (by first | omega | (simp;done) | (simp;omega)) (by rw [htx];simp) _ _ rfl (by rw [hj];simp)⟩
                have oc1:Fct ((Builtin.Str.occurrences ⟨ds.toArray⟩ (ofString "-") 0 (⟨ds.toArray⟩:Str).length 1).isEmpty=true):=⟨occNo (k:=45) fun c hc=>by have:=hdg c hc;omega⟩
                have oc1b:Fct ((!!(Builtin.Str.occurrences ⟨ds.toArray⟩ (ofString "-") 0 (⟨ds.toArray⟩:Str).length 1).isEmpty)=true):=⟨by rw [oc1.out];rfl⟩
                have oc2:Fct ((Builtin.Str.occurrences ⟨ds.toArray⟩ (ofString "\\") 0 (⟨ds.toArray⟩:Str).length ((⟨ds.toArray⟩:Str).length+1)).isEmpty=true):=⟨occNo (k:=92) fun c hc=>by have:=hdg c hc;omega⟩
                have nh:Fct (noHit ds=true):=⟨noHit_ds0 hdl hdg⟩
                have hds : ds.length≤100:=by first | omega | (simp;done) | (simp;omega)
                have q1:Fct ((((⟨ds.toArray⟩:Str).length:Int) != 0)=true):=⟨by simp [Str.length];exact List.ne_nil_of_length_pos hb0⟩
                have q1b:Fct ((!(((⟨ds.toArray⟩:Str).length:Int) != 0))=false):=⟨by rw [q1.out];rfl⟩
                have q2:Fct (((⟨ds.toArray⟩:Str) == ofString "!")=false):=⟨by have:=strEq ds [33];refine Eq.trans this ?_;simp;intro e;have:=hdg 33 (by rw [e];simp);omega⟩
                have q3:Fct (Txt.item ⟨ds.toArray⟩ 0=⟨#[c0]⟩):=⟨by rw [itemN _ (by omega) (by omega)];simp [List.getD_eq_getElem?_getD,hc0]⟩
                have q4:Fct (([ofString "^",ofString "["].any fun x=>x == (⟨#[c0]⟩:Str))=false):=⟨any_sign hc0d⟩
                have hl0:(⟨ds.toArray⟩:Str).length=ds.length:=by simp [Str.length]
                k_steps
                (rename News _ _ _ _=>N7);(replace N7:=N7;rw [fstr] at N7)
                k_extra "r30"
                k_extra "r31"
              · have S1 : Fct (Txt.slice ⟨(sgT segs).toArray⟩ (some (((sgT A).length : Int) + 1)) (some j) = ⟨[p, 45, q].toArray⟩) := ⟨slice_seg (u := 1) (Y := [p, 45, q]) hZ (by simp) (by rw [htx]; simp) _ _ rfl (by rw [hj]; simp <;> omega)⟩
                have oc1:Fct ((!!(Builtin.Str.occurrences ⟨[p,45,q].toArray⟩ (ofString "-") 0 (⟨[p,45,q].toArray⟩:Str).length 1).isEmpty)=false):=⟨occYes (k:=45) (i:=1) rfl⟩
                have hj4 : j=((sgT A).length:Int)+4:=by rw [hj];simp;omega
                have hjn : j.toNat=(sgT A).length+4:=by omega
                have hmin : min j.toNat (⟨(sgT segs).toArray⟩:Str).length=(sgT A).length+4:=by rw [hjn];omega
                have fd1:Fct (fndIn ⟨(sgT segs).toArray⟩ (ofString "-") (((sgT A).length:Int)+1+1).toNat (min j.toNat (⟨(sgT segs).toArray⟩:Str).length)=(((sgT A).length:Int)+2)):=⟨fnd_seg (k:=2) hZ (by rw [htx];rfl) (by omega) (by rw [hmin];omega) (by rw [hmin];omega) (by omega)⟩
                have fd2:Fct (fndIn ⟨(sgT segs).toArray⟩ (ofString "-") (((sgT A).length:Int)+2+3).toNat (min j.toNat (⟨(sgT segs).toArray⟩:Str).length)=-1):=⟨fnd_none (by rw [hmin];omega)⟩
                have nn1:Fct (decide ((((sgT A).length:Int)+2) < 0)=false):=⟨by simp;omega⟩
                have S2:Fct (Txt.slice ⟨(sgT segs).toArray⟩ (some (((sgT A).length:Int)+1)) (some (((sgT A).length:Int)+2))=⟨([]++[p]:List Nat).toArray⟩):=⟨slice_seg (u:=1) (Y:=[]++[p]) hZ (by simp) (by rw [htx];simp) _ _ rfl (by simp;omega)⟩
                have S3:Fct (Txt.slice ⟨(sgT segs).toArray⟩ (some (((sgT A).length:Int)+2+1)) (some j)=⟨#[q]⟩):=⟨slice_seg (u:=3) (Y:=[q]) hZ (by simp) (by rw [htx];simp) _ _ (by omega) (by rw [hj4];simp;omega)⟩
                k_steps
                show wpAny _ _ _ _ _ _
                (rename Fr _ _ _ _=>F5);(rename News g _ _ ((_,_)::_)=>N5);(rename tAt _ _=>hT5)
                refine headOf N5 ?_
                intro lc hlc
                subst hlc
                refine forRng (h₀:=g) (L:=L') (τ:=ts+2) (a:=1) (c:=-1) (n:=1) (DshJ (sgT segs) [] p q D b lc its cap ps' t ts tq j) rfl (Nat.le_trans hT5.le (by (try dsimp only);omega)) ?hit ?stp ?dn
                case hit =>
                  k_steps
                  k_extra "r32"
                  k_extra "r33"
                case stp =>
                  clear F5 N5 hT5 S1 oc1 hjn hmin fd1 fd2 nn1 S2 S3
                  (intro i tk0 m3 news3 h3 g3 d3 tk3 I oI hi hτ3 G3 zo77;(first | refine exE zo77 ?_ | refine aE zo77 ?_);clear zo77;intro tn3 zz;k_extra "e";intro tj3 zz;k_extra "e";intro arr zz;k_extra "e";intro ac zz;k_extra "e";intro gm3 zz;k_extra "e";intro zo78 zz;subst zo78;k_extra "e";intro zo79 hch;subst zo79;intro F3 N3 off3 off3')
                  obtain rfl : i=0:=by omega
                  have hT9:tAt (ts+2) tk3:=⟨hτ3⟩
                  clear hτ3
                  (refine or2E hch ?alo16_0 ?alo16_1;(case' alo16_1=>(clear hch;intro zo17;(first | refine exE zo17 ?_ | refine aE zo17 ?_);clear zo17;intro uo18;intro zz;k_extra "e";intro t1;intro zz;k_extra "e";intro t2;intro zo19;subst zo19));(case' alo16_0=>(clear hch;intro zo20;(first | refine exE zo20 ?_ | refine aE zo20 ?_);clear zo20;intro h9;intro uo21)))
                  · cases h9
                  have of1 : @Ne Nat lc I:=off3 _ (.head _)
                  have of2 : @Ne Nat D I:=off3 _ (.tail _ (.head _))
                  have of3 : @Ne Nat b I:=off3 _ (.tail _ (.tail _ (.head _)))
                  have of4 : @Ne Nat 57 I:=off3 _ (.tail _ (.tail _ (.tail _ (.head _))))
                  clear off3 off3'
                  have e1:(1:Int)+((0:Nat):Int)*(-1)=1:=rfl
                  rw [e1]
                  clear e1
                  (have zo65:∃ x1:Str,(⟨([]++[p]:List Nat).toArray⟩:Str)=x1:=⟨_,rfl⟩);((first | refine exE zo65 ?_ | refine aE zo65 ?_);clear zo65;intro x1;intro hx1)
                  have hx1l : 1≤x1.length∧x1.length≤2:=by rw [← hx1];simp [Str.length]
                  have it1:Fct (Txt.item x1 (-1)=⟨#[p]⟩):=⟨by rw [← hx1];exact item_last⟩
                  (replace N3:=N3;rw [hx1] at N3)
                  have it2:Fct (Txt.item ⟨#[q]⟩ 0=⟨#[q]⟩):=⟨by rw [itemN (cs:=[q]) (by omega) (by simp)];rfl⟩
                  (refine or2E (Nat.lt_or_ge q p) ?alo22_0 ?alo22_1;(case' alo22_1=>(intro hpq));(case' alo22_0=>(intro hpq)))
                  · have cd1 : Fct (decide ([q] < [p]) = true) := ⟨decide_eq_true (lt_one.mpr hpq)⟩
                    have sl1:Fct (Txt.slice x1 none (some (-1))=⟨([]:List Nat).toArray⟩):=⟨by rw [← hx1];exact slice_init⟩
                    have sl2:Fct (Txt.slice ⟨#[q]⟩ (some 1) none=⟨#[]⟩):=⟨slice_tail (c:=q) (l:=[])⟩
                    k_steps
                    (rename Fr _ _ _ _=>F6);(rename News g _ _ ((_,_)::_)=>N6);(rename tAt _ _=>hT6)
                    subst hx1
                    k_extra "r34"
                  · have cd1 : Fct (decide ([q] < [p]) = false) := ⟨decide_eq_false fun h => absurd (lt_one.mp h) (Nat.not_lt.mpr hpq)⟩
                    k_steps
                    (rename Fr _ _ _ _=>F6);(rename News g _ _ ((_,_)::_)=>N6);(rename tAt _ _=>hT6)
                    subst hx1
                    k_extra "r35"
                case dn =>
                  clear F5 N5 hT5 S1 oc1 hjn hmin fd1 fd2 nn1 S2 S3
                  (intro m3 news3 h3 g3 d3 tk3 hτ3 G3 zo80;(first | refine exE zo80 ?_ | refine aE zo80 ?_);clear zo80;intro tn3 zz;k_extra "e";intro tj3 zz;k_extra "e";intro arr zz;k_extra "e";intro ac zz;k_extra "e";intro gm3 zz;k_extra "e";intro zo81 zz;subst zo81;k_extra "e";intro zo82 hch;subst zo82;intro F3 N3)
                  have hT9:tAt (ts+2) tk3:=⟨hτ3⟩
                  clear hτ3
                  have hcp:∀ k,k≠33→k < 48∨57 < k→∀ c∈([]++[p]:List Nat),c≠k:=by
                    intro k hk hk2 c hc
                    (replace hc:=hc;simp at hc)
                    omega
                  (refine or2E hch ?alo23_0 ?alo23_1;(case' alo23_1=>(clear hch;intro zo24;(first | refine exE zo24 ?_ | refine aE zo24 ?_);clear zo24;intro hpq;intro zz;k_extra "e";intro t1;intro zz;k_extra "e";intro t2;intro zo25;subst zo25));(case' alo23_0=>(clear hch;intro zo26;(first | refine exE zo26 ?_ | refine aE zo26 ?_);clear zo26;intro uo27;intro zz;k_extra "e";intro hpq;intro zz;k_extra "e";intro t1;intro zo28;subst zo28)))
                  · have e9 : Fct (Txt.join (ofString "-") ((List.range (#[Value.str (⟨([] : List Nat).toArray⟩ : Str) t1] : Array Value).size).map (fun _ => (⟨([] : List Nat).toArray⟩ : Str))) = ⟨([] : List Nat).toArray⟩) := ⟨join1⟩
                    have ok9:Fct (JoinOk (ofString "-") ((List.range (#[Value.str (⟨([]:List Nat).toArray⟩:Str) t1]:Array Value).size).map (fun _=>(⟨([]:List Nat).toArray⟩:Str)))=true):=⟨rfl⟩
                    have nh:Fct (noHit ([]:List Nat)=true):=⟨noHit0.1⟩
                    have q1:Fct ((((⟨([]:List Nat).toArray⟩:Str).length:Int) != 0)=false):=⟨rfl⟩
                    have q1b:Fct ((!(((⟨([]:List Nat).toArray⟩:Str).length:Int) != 0))=true):=⟨rfl⟩
                    have q1c:Fct ((!true)=false):=⟨rfl⟩
                    have q2:Fct (((⟨([]:List Nat).toArray⟩:Str) == ofString "!")=false):=⟨by decide +kernel⟩
                    have hl0:(⟨([]:List Nat).toArray⟩:Str).length=0:=by decide +kernel
                    have hds:([]:List Nat).length≤100:=by simp
                    k_steps
                    show wpAny _ _ _ _ _ _
                    (rename Fr _ _ _ _=>F5);(rename News g _ _ _=>N5)
                    have hl57 : @Ne Nat lc 57:=by (show @Ne Nat _ _);omega
                    refine' gen_N (tx:=fun _=>(⟨([]:List Nat).toArray⟩:Str)) (l:=lc) F5 N5 T G3 C rfl rfl ?zU hps' (by decide) ?zl hl57 ?znm rfl rfl rfl ?zcell rfl rfl rfl ?zroom ?zquiet ?zgo ?zhs
                    case zU=>k_updF
                    case zl=>k_mem
                    case znm=>(intro Q' hQ';k_steps;exact hQ')
                    case zcell=>decide
                    case zroom=>(show _ < 1000;(k_extra "s1");(try dsimp only);omega)
                    case zquiet =>
                      intro code h9 href
                      k_extra "r36"
                      case e1 =>
                        intro i _
                        exact occNo (k:=92) (by intro c hc;(replace hc:=hc;simp at hc))
                      case e2 =>
                        intro i _
                        exact occNo (k:=45) (by intro c hc;(replace hc:=hc;simp at hc))
                    case zhs=>(intro _;rfl)
                    case zgo =>
                      clear F5 N5
                      intro b9 h9 g9 tk9 ps9 h57' F9 N9 G9 X9
                      (try (replace N9:=N9;replace X9:=X9;dsimp only at N9 X9))
                      k_steps
                      (rename AllBare _=>G7)
                      (rename Fr _ _ _ _=>F6);(rename News _ _ _ _=>N6);(rename tAt _ _=>hT6);(rename T57 _ _ _=>h57')
                      exact ⟨rfl,_,_,_,_,_,_,B'.length,rfl,hT6.le,G7,F6,nsO N6 (mv:=[(D,_),(b,_),(57,_)]) (by lcg_sub),by simp,⟨A++[g0],B',j+1,_,_,D,b,_,_,_,_,by rw [hs];simp,rfl,(by rw [← len_star A g0,hlt,hj];simp;omega),by walk_at "k_canon",rfl,⟨n1,n2,n3⟩,h57',(by simp;omega),(by rw [sgS,hg0,step_gt0 hpq];exact its_push (.other _ _ (by decide +kernel) (by exact Nat.lt_of_lt_of_le (Nat.lt_succ_of_lt (Nat.lt_succ_self _)) (tAt.le (n:=ts+2) (by with_reducible assumption))) hI))⟩⟩
                  · have hpq' : p ≤ q := hpq.resolve_left (by omega)
                    have e9:Fct (Txt.join (ofString "-") ((List.range (#[Value.str (⟨([]++[p]:List Nat).toArray⟩:Str) t1,Value.str (⟨#[q]⟩:Str) t2]:Array Value).size).map (fun i=>if i=0 then (⟨([]++[p]:List Nat).toArray⟩:Str) else ⟨#[q]⟩))=⟨[p,45,q].toArray⟩):=⟨join2 (pre:=([]:List Nat))⟩
                    have ok9:Fct (JoinOk (ofString "-") ((List.range (#[Value.str (⟨([]++[p]:List Nat).toArray⟩:Str) t1,Value.str (⟨#[q]⟩:Str) t2]:Array Value).size).map (fun i=>if i=0 then (⟨([]++[p]:List Nat).toArray⟩:Str) else ⟨#[q]⟩))=true):=⟨rfl⟩
                    have nh:Fct (noHit [p,45,q]=true):=⟨(noHit_rng hp9 hq9).1⟩
                    have q1:Fct ((((⟨[p,45,q].toArray⟩:Str).length:Int) != 0)=true):=⟨by simp [Str.length]⟩
                    have q1b:Fct ((!(((⟨[p,45,q].toArray⟩:Str).length:Int) != 0))=false):=⟨by simp [Str.length]⟩
                    have q2:Fct (((⟨[p,45,q].toArray⟩:Str) == ofString "!")=false):=⟨by have:=strEq [p,45,q] [33];refine Eq.trans this ?_;simp⟩
                    have q3:Fct (Txt.item ⟨[p,45,q].toArray⟩ 0=⟨#[p]⟩):=⟨by rw [itemN _ (by omega) (by simp)];rfl⟩
                    have q4:Fct (([ofString "^",ofString "["].any fun x=>x == (⟨#[p]⟩:Str))=false):=⟨any_sign hp9⟩
                    have q5:Fct (((⟨#[p]⟩:Str) == ofString "!")=false):=⟨signNe (k:=33) (by omega)⟩
                    have hl0:(⟨[p,45,q].toArray⟩:Str).length=3:=by simp [Str.length]
                    have hds : [p,45,q].length≤100:=by simp
                    k_steps
                    show wpAny _ _ _ _ _ _
                    (rename Fr _ _ _ _=>F5);(rename News g _ _ _=>N5)
                    have hl57 : @Ne Nat lc 57:=by (show @Ne Nat _ _);omega
                    refine' gen_N (tx:=fun i=>if i=0 then (⟨([]++[p]:List Nat).toArray⟩:Str) else ⟨#[q]⟩) (l:=lc) F5 N5 T G3 C rfl rfl ?zU hps' (by decide) ?zl hl57 ?znm rfl rfl rfl ?zcell rfl rfl rfl ?zroom ?zquiet ?zgo ?zhs
                    case zU=>k_updF
                    case zl=>k_mem
                    case znm=>(intro Q' hQ';k_steps;exact hQ')
                    case zcell=>decide
                    case zroom=>(show _ < 1000;(k_extra "s1");(try dsimp only);omega)
                    case zquiet =>
                      intro code h9 href
                      k_extra "r37"
                      case e1 =>
                        intro i hi
                        match i,hi with
                        | 0,_=>exact occNo (k:=92) (hcp 92 (by omega) (by omega))
                        | 1,_=>exact occNo (k:=92) (l:=[q]) (by intro c hc;(replace hc:=hc;simp at hc);omega)
                      case e2 =>
                        intro i hi
                        match i,hi with
                        | 0,_=>exact occNo (k:=45) (hcp 45 (by omega) (by omega))
                        | 1,_=>exact occNo (k:=45) (l:=[q]) (by intro c hc;(replace hc:=hc;simp at hc);omega)
                    case zhs=>(intro _;rfl)
                    case zgo =>
                      clear F5 N5
                      intro b9 h9 g9 tk9 ps9 h57' F9 N9 G9 X9
                      (try (replace N9:=N9;replace X9:=X9;dsimp only at N9 X9))
                      k_steps
                      (rename AllBare _=>G7)
                      (rename News _ _ _ _=>N7);(replace N7:=N7;rw [fstr] at N7)
                      k_extra "r30"
                      k_extra "r38"
        case alo51_1 =>
          intro zo53;subst zo53
          replace hlt : g0.text.length=1+bs.length+2:=hlt
          have z0:Fct (Txt.item ⟨(sgT segs).toArray⟩ (((sgT A).length:Int)+1)=ofString "!"):=⟨item_seg (k:=1) hZ (by rw [htx];rfl) _ (by simp)⟩
          have z2:Fct ((ofString "!" == ofString "!")=true):=⟨by decide⟩
          have hd3:Fct (decide ((((sgT A).length:Int)+1+1) < ((sgT segs).length:Int))=true):=⟨by simp;omega⟩
          have hr3 : fitsSsize (((sgT A).length:Int)+1+1)=true:=by unfold fitsSsize;simp;omega
          have z1:Fct (Txt.item ⟨(sgT segs).toArray⟩ (((sgT A).length:Int)+1+1)=⟨#[c0]⟩):=⟨item_seg (k:=2) hZ (by rw [htx];exact (brk_at (pre:=[33]) (u:=0) hb0).trans hc0) _ (by simp;omega)⟩
          have z3:Fct (((⟨#[c0]⟩:Str) == ofString "]")=false):=⟨signNe (k:=93) hc0m.2⟩
          k_steps
          show wpAny _ _ _ _ _ _
          (rename Fr _ _ _ _=>F5);(rename News _ _ _ _=>N5);(rename tAt _ _=>hT5)
          with_unfolding_all refine While_invX (τ:=ts+2) (BrJ (sgT segs) bs.length (((sgT A).length:Int)+1) (((sgT A).length:Int)+1+1) D b its cap ps' t ts tq) (n₀:=bs.length) hT5.le G' F5 (nsO N5 (mv:=[(D,listOf its cap),(b,boundO D),(57,tabObj ps')]) (by lcg_sub)) ⟨((sgT A).length:Int)+1+1,_,_,_,_,Nat.le_refl _,(by simp),by walk_at "k_canon",rfl⟩ ?w
          case w =>
            clear F5 N5 hT5
            (intro v m2 news2 h2 g2 d2 tk2 hτ2 G2 F2 N2 zo83;(first | refine exE zo83 ?_ | refine aE zo83 ?_);clear zo83;intro j zz;k_extra "e";intro ti2 zz;k_extra "e";intro tn2 zz;k_extra "e";intro tj zz;k_extra "e";intro gm2 zz;k_extra "e";intro hv zz;k_extra "e";intro hj zz;k_extra "e";intro zo84 zo85;subst zo84;subst zo85)
            have hT9:tAt (ts+2) tk2:=⟨hτ2⟩
            clear hτ2
            have hj1:Fct (decide (j < ((sgT segs).length:Int))=true):=⟨by simp;omega⟩
            have hj2 : fitsSsize j=true:=by unfold fitsSsize;simp;omega
            have hj3:Fct (decide (j ≥ ((sgT segs).length:Int))=false):=⟨by simp;omega⟩
            refine or2E (Or.symm (nat_or v)) ?alo58_0 ?alo58_1
            case alo58_0 =>
              intro zo59;(first | refine exE zo59 ?_ | refine aE zo59 ?_);clear zo59;intro v;intro zo60;subst zo60
              (have zo66:∃ c1,bs[bs.length - (v+1)]?=some c1:=⟨_,List.getElem?_eq_getElem (by omega)⟩);((first | refine exE zo66 ?_ | refine aE zo66 ?_);clear zo66;intro c1;intro hc1)
              have hc1m:=hbc c1 (List.mem_of_getElem? hc1)
              have w1:Fct (Txt.item ⟨(sgT segs).toArray⟩ j=⟨#[c1]⟩):=⟨item_seg (k:=2+(bs.length - (v+1))) hZ (by rw [htx];exact (brk_at (pre:=[33]) (by omega)).trans hc1) _ (by rw [hj];omega)⟩
              have w2:Fct (((⟨#[c1]⟩:Str) != ofString "]")=true):=⟨signBne (k:=93) hc1m.2⟩
              k_steps
              (rename Fr _ _ _ _=>F6);(rename News _ _ _ _=>N6);(rename tAt _ _=>hT6)
              k_extra "r29"
            case alo58_1 =>
              intro zo61;subst zo61
              have w1:Fct (Txt.item ⟨(sgT segs).toArray⟩ j=ofString "]"):=⟨item_seg (k:=2+bs.length) hZ (by rw [htx];exact brk_end (pre:=[33])) _ (by rw [hj];omega)⟩
              have w2:Fct ((ofString "]" != ofString "]")=false):=⟨by decide⟩
              (refine or2E hkind ?alo29_0 ?alo29_1;(case' alo29_1=>(clear hkind;intro zo30;(first | refine exE zo30 ?_ | refine aE zo30 ?_);clear zo30;intro p;intro zz;k_extra "e";intro q;intro zz;k_extra "e";intro hg0;intro zz;k_extra "e";intro zo31;intro zz;subst zo31;k_extra "e";intro hp9;intro hq9));(case' alo29_0=>(clear hkind;intro zo32;(first | refine exE zo32 ?_ | refine aE zo32 ?_);clear zo32;intro ds;intro zz;k_extra "e";intro hg0;intro zz;k_extra "e";intro zo33;intro zz;subst zo33;k_extra "e";intro hdl;intro hdg)))
              · have hc0d := hdg c0 (List.mem_of_getElem? hc0)
                have sl:Fct (Txt.slice ⟨(sgT segs).toArray⟩ (some (((sgT A).length:Int)+1)) (some j)=⟨(33::ds).toArray⟩):=⟨slice_seg (u:=1) (Y:=(33::ds)) hZ (by first | omega | (simp;done) | (simp;omega)) (by rw [htx];simp) _ _ rfl (by rw [hj];simp;omega)⟩
                have oc1:Fct ((Builtin.Str.occurrences ⟨(33::ds).toArray⟩ (ofString "-") 0 (⟨(33::ds).toArray⟩:Str).length 1).isEmpty=true):=⟨occNo (k:=45) (fun c hc=>by rcases List.mem_cons.mp hc with rfl | hc;decide;have:=hdg c hc;omega)⟩
                have oc1b:Fct ((!!(Builtin.Str.occurrences ⟨(33::ds).toArray⟩ (ofString "-") 0 (⟨(33::ds).toArray⟩:Str).length 1).isEmpty)=true):=⟨by rw [oc1.out];rfl⟩
                have oc2:Fct ((Builtin.Str.occurrences ⟨(33::ds).toArray⟩ (ofString "\\") 0 (⟨(33::ds).toArray⟩:Str).length ((⟨(33::ds).toArray⟩:Str).length+1)).isEmpty=true):=⟨occNo (k:=92) (fun c hc=>by rcases List.mem_cons.mp hc with rfl | hc;decide;have:=hdg c hc;omega)⟩
                have nh:Fct (noHit (33::ds)=true):=⟨noHit_ds1 hdl hdg⟩
                have hds:(33::ds).length≤100:=by first | omega | (simp;done) | (simp;omega)
                have q1:Fct ((((⟨(33::ds).toArray⟩:Str).length:Int) != 0)=true):=⟨by simp [Str.length];omega⟩
                have q1b:Fct ((!(((⟨(33::ds).toArray⟩:Str).length:Int) != 0))=false):=⟨by rw [q1.out];rfl⟩
                have q2:Fct (((⟨(33::ds).toArray⟩:Str) == ofString "!")=false):=⟨by have:=strEq (33::ds) [33];refine Eq.trans this ?_;simp;intro e;(replace hb0:=hb0;rw [e] at hb0);(replace hb0:=hb0;simp at hb0)⟩
                have q3:Fct (Txt.item ⟨(33::ds).toArray⟩ 0=ofString "!"):=⟨by rw [itemN _ (by omega) (by simp)];rfl⟩
                have q4:Fct (Txt.slice ⟨(33::ds).toArray⟩ (some 1) none=⟨ds.toArray⟩):=⟨slice_tail⟩
                have hl0:(⟨(33::ds).toArray⟩:Str).length=ds.length+1:=by simp [Str.length]
                k_steps
                (rename News _ _ _ _=>N7);(replace N7:=N7;rw [fstr1] at N7)
                k_extra "r30"
                k_extra "r31"
              · have S1 : Fct (Txt.slice ⟨(sgT segs).toArray⟩ (some (((sgT A).length : Int) + 1)) (some j) = ⟨[33, p, 45, q].toArray⟩) := ⟨slice_seg (u := 1) (Y := [33, p, 45, q]) hZ (by simp) (by rw [htx]; simp) _ _ rfl (by rw [hj]; simp <;> omega)⟩
                have oc1:Fct ((!!(Builtin.Str.occurrences ⟨[33,p,45,q].toArray⟩ (ofString "-") 0 (⟨[33,p,45,q].toArray⟩:Str).length 1).isEmpty)=false):=⟨occYes (k:=45) (i:=2) rfl⟩
                have hj4 : j=((sgT A).length:Int)+5:=by rw [hj];simp;omega
                have hjn : j.toNat=(sgT A).length+5:=by omega
                have hmin : min j.toNat (⟨(sgT segs).toArray⟩:Str).length=(sgT A).length+5:=by rw [hjn];omega
                have fd1:Fct (fndIn ⟨(sgT segs).toArray⟩ (ofString "-") (((sgT A).length:Int)+1+2).toNat (min j.toNat (⟨(sgT segs).toArray⟩:Str).length)=(((sgT A).length:Int)+3)):=⟨fnd_seg (k:=3) hZ (by rw [htx];rfl) (by omega) (by rw [hmin];omega) (by rw [hmin];omega) (by omega)⟩
                have fd2:Fct (fndIn ⟨(sgT segs).toArray⟩ (ofString "-") (((sgT A).length:Int)+3+3).toNat (min j.toNat (⟨(sgT segs).toArray⟩:Str).length)=-1):=⟨fnd_none (by rw [hmin];omega)⟩
                have nn1:Fct (decide ((((sgT A).length:Int)+3) < 0)=false):=⟨by simp;omega⟩
                have S2:Fct (Txt.slice ⟨(sgT segs).toArray⟩ (some (((sgT A).length:Int)+1)) (some (((sgT A).length:Int)+3))=⟨([33]++[p]:List Nat).toArray⟩):=⟨slice_seg (u:=1) (Y:=[33]++[p]) hZ (by simp) (by rw [htx];simp) _ _ rfl (by simp;omega)⟩
                have S3:Fct (Txt.slice ⟨(sgT segs).toArray⟩ (some (((sgT A).length:Int)+3+1)) (some j)=⟨#[q]⟩):=⟨slice_seg (u:=4) (Y:=[q]) hZ (by simp) (by rw [htx];simp) _ _ (by omega) (by rw [hj4];simp;omega)⟩
                k_steps
                show wpAny _ _ _ _ _ _
                (rename Fr _ _ _ _=>F5);(rename News g _ _ ((_,_)::_)=>N5);(rename tAt _ _=>hT5)
                refine headOf N5 ?_
                intro lc hlc
                subst hlc
                refine forRng (h₀:=g) (L:=L') (τ:=ts+2) (a:=1) (c:=-1) (n:=1) (DshJ (sgT segs) [33] p q D b lc its cap ps' t ts tq j) rfl (Nat.le_trans hT5.le (by (try dsimp only);omega)) ?hit ?stp ?dn
                case hit =>
                  k_steps
                  k_extra "r32"
                  k_extra "r33"
                case stp =>
                  clear F5 N5 hT5 S1 oc1 hjn hmin fd1 fd2 nn1 S2 S3
                  (intro i tk0 m3 news3 h3 g3 d3 tk3 I oI hi hτ3 G3 zo86;(first | refine exE zo86 ?_ | refine aE zo86 ?_);clear zo86;intro tn3 zz;k_extra "e";intro tj3 zz;k_extra "e";intro arr zz;k_extra "e";intro ac zz;k_extra "e";intro gm3 zz;k_extra "e";intro zo87 zz;subst zo87;k_extra "e";intro zo88 hch;subst zo88;intro F3 N3 off3 off3')
                  obtain rfl : i=0:=by omega
                  have hT9:tAt (ts+2) tk3:=⟨hτ3⟩
                  clear hτ3
                  (refine or2E hch ?alo34_0 ?alo34_1;(case' alo34_1=>(clear hch;intro zo35;(first | refine exE zo35 ?_ | refine aE zo35 ?_);clear zo35;intro uo36;intro zz;k_extra "e";intro t1;intro zz;k_extra "e";intro t2;intro zo37;subst zo37));(case' alo34_0=>(clear hch;intro zo38;(first | refine exE zo38 ?_ | refine aE zo38 ?_);clear zo38;intro h9;intro uo39)))
                  · cases h9
                  have of1 : @Ne Nat lc I:=off3 _ (.head _)
                  have of2 : @Ne Nat D I:=off3 _ (.tail _ (.head _))
                  have of3 : @Ne Nat b I:=off3 _ (.tail _ (.tail _ (.head _)))
                  have of4 : @Ne Nat 57 I:=off3 _ (.tail _ (.tail _ (.tail _ (.head _))))
                  clear off3 off3'
                  have e1:(1:Int)+((0:Nat):Int)*(-1)=1:=rfl
                  rw [e1]
                  clear e1
                  (have zo67:∃ x1:Str,(⟨([33]++[p]:List Nat).toArray⟩:Str)=x1:=⟨_,rfl⟩);((first | refine exE zo67 ?_ | refine aE zo67 ?_);clear zo67;intro x1;intro hx1)
                  have hx1l : 1≤x1.length∧x1.length≤2:=by rw [← hx1];simp [Str.length]
                  have it1:Fct (Txt.item x1 (-1)=⟨#[p]⟩):=⟨by rw [← hx1];exact item_last⟩
                  (replace N3:=N3;rw [hx1] at N3)
                  have it2:Fct (Txt.item ⟨#[q]⟩ 0=⟨#[q]⟩):=⟨by rw [itemN (cs:=[q]) (by omega) (by simp)];rfl⟩
                  (refine or2E (Nat.lt_or_ge q p) ?alo40_0 ?alo40_1;(case' alo40_1=>(intro hpq));(case' alo40_0=>(intro hpq)))
                  · have cd1 : Fct (decide ([q] < [p]) = true) := ⟨decide_eq_true (lt_one.mpr hpq)⟩
                    have sl1:Fct (Txt.slice x1 none (some (-1))=⟨([33]:List Nat).toArray⟩):=⟨by rw [← hx1];exact slice_init⟩
                    have sl2:Fct (Txt.slice ⟨#[q]⟩ (some 1) none=⟨#[]⟩):=⟨slice_tail (c:=q) (l:=[])⟩
                    k_steps
                    (rename Fr _ _ _ _=>F6);(rename News g _ _ ((_,_)::_)=>N6);(rename tAt _ _=>hT6)
                    subst hx1
                    k_extra "r34"
                  · have cd1 : Fct (decide ([q] < [p]) = false) := ⟨decide_eq_false fun h => absurd (lt_one.mp h) (Nat.not_lt.mpr hpq)⟩
                    k_steps
                    (rename Fr _ _ _ _=>F6);(rename News g _ _ ((_,_)::_)=>N6);(rename tAt _ _=>hT6)
                    subst hx1
                    k_extra "r35"
                case dn =>
                  clear F5 N5 hT5 S1 oc1 hjn hmin fd1 fd2 nn1 S2 S3
                  (intro m3 news3 h3 g3 d3 tk3 hτ3 G3 zo89;(first | refine exE zo89 ?_ | refine aE zo89 ?_);clear zo89;intro tn3 zz;k_extra "e";intro tj3 zz;k_extra "e";intro arr zz;k_extra "e";intro ac zz;k_extra "e";intro gm3 zz;k_extra "e";intro zo90 zz;subst zo90;k_extra "e";intro zo91 hch;subst zo91;intro F3 N3)
                  have hT9:tAt (ts+2) tk3:=⟨hτ3⟩
                  clear hτ3
                  have hcp:∀ k,k≠33→k < 48∨57 < k→∀ c∈([33]++[p]:List Nat),c≠k:=by
                    intro k hk hk2 c hc
                    (replace hc:=hc;simp at hc)
                    omega
                  (refine or2E hch ?alo41_0 ?alo41_1;(case' alo41_1=>(clear hch;intro zo42;(first | refine exE zo42 ?_ | refine aE zo42 ?_);clear zo42;intro hpq;intro zz;k_extra "e";intro t1;intro zz;k_extra "e";intro t2;intro zo43;subst zo43));(case' alo41_0=>(clear hch;intro zo44;(first | refine exE zo44 ?_ | refine aE zo44 ?_);clear zo44;intro uo45;intro zz;k_extra "e";intro hpq;intro zz;k_extra "e";intro t1;intro zo46;subst zo46)))
                  · have e9 : Fct (Txt.join (ofString "-") ((List.range (#[Value.str (⟨([33] : List Nat).toArray⟩ : Str) t1] : Array Value).size).map (fun _ => (⟨([33] : List Nat).toArray⟩ : Str))) = ⟨([33] : List Nat).toArray⟩) := ⟨join1⟩
                    have ok9:Fct (JoinOk (ofString "-") ((List.range (#[Value.str (⟨([33]:List Nat).toArray⟩:Str) t1]:Array Value).size).map (fun _=>(⟨([33]:List Nat).toArray⟩:Str)))=true):=⟨rfl⟩
                    have nh:Fct (noHit ([33]:List Nat)=true):=⟨noHit0.2⟩
                    have q1:Fct ((((⟨([33]:List Nat).toArray⟩:Str).length:Int) != 0)=true):=⟨rfl⟩
                    have q1b:Fct ((!(((⟨([33]:List Nat).toArray⟩:Str).length:Int) != 0))=false):=⟨rfl⟩
                    have q1c:Fct ((!true)=false):=⟨rfl⟩
                    have q2:Fct (((⟨([33]:List Nat).toArray⟩:Str) == ofString "!")=true):=⟨by decide +kernel⟩
                    have hl0:(⟨([33]:List Nat).toArray⟩:Str).length=1:=by decide +kernel
                    have hds:([33]:List Nat).length≤100:=by simp
                    k_steps
                    show wpAny _ _ _ _ _ _
                    (rename Fr _ _ _ _=>F5);(rename News g _ _ _=>N5)
                    have hl57 : @Ne Nat lc 57:=by (show @Ne Nat _ _);omega
                    refine' gen_N (tx:=fun _=>(⟨([33]:List Nat).toArray⟩:Str)) (l:=lc) F5 N5 T G3 C rfl rfl ?zU hps' (by decide) ?zl hl57 ?znm rfl rfl rfl ?zcell rfl rfl rfl ?zroom ?zquiet ?zgo ?zhs
                    case zU=>k_updF
                    case zl=>k_mem
                    case znm=>(intro Q' hQ';k_steps;exact hQ')
                    case zcell=>decide
                    case zroom=>(show _ < 1000;(k_extra "s1");(try dsimp only);omega)
                    case zquiet =>
                      intro code h9 href
                      k_extra "r36"
                      case e1 =>
                        intro i _
                        exact occNo (k:=92) (by intro c hc;(replace hc:=hc;simp at hc);omega)
                      case e2 =>
                        intro i _
                        exact occNo (k:=45) (by intro c hc;(replace hc:=hc;simp at hc);omega)
                    case zhs=>(intro _;rfl)
                    case zgo =>
                      clear F5 N5
                      intro b9 h9 g9 tk9 ps9 h57' F9 N9 G9 X9
                      (try (replace N9:=N9;replace X9:=X9;dsimp only at N9 X9))
                      k_steps
                      (rename AllBare _=>G7)
                      (rename Fr _ _ _ _=>F6);(rename News _ _ _ _=>N6);(rename tAt _ _=>hT6);(rename T57 _ _ _=>h57')
                      exact ⟨rfl,_,_,_,_,_,_,B'.length,rfl,hT6.le,G7,F6,nsO N6 (mv:=[(D,_),(b,_),(57,_)]) (by lcg_sub),by simp,⟨A++[g0],B',j+1,_,_,D,b,_,_,_,_,by rw [hs];simp,rfl,(by rw [← len_star A g0,hlt,hj];simp;omega),by walk_at "k_canon",rfl,⟨n1,n2,n3⟩,h57',(by simp;omega),(by rw [sgS,hg0,step_gt1 hpq];exact its_push (.other _ _ (by decide +kernel) (by exact Nat.lt_of_lt_of_le (Nat.lt_succ_of_lt (Nat.lt_succ_self _)) (tAt.le (n:=ts+2) (by with_reducible assumption))) hI))⟩⟩
                  · have hpq' : p ≤ q := hpq.resolve_left (by omega)
                    have e9:Fct (Txt.join (ofString "-") ((List.range (#[Value.str (⟨([33]++[p]:List Nat).toArray⟩:Str) t1,Value.str (⟨#[q]⟩:Str) t2]:Array Value).size).map (fun i=>if i=0 then (⟨([33]++[p]:List Nat).toArray⟩:Str) else ⟨#[q]⟩))=⟨[33,p,45,q].toArray⟩):=⟨join2 (pre:=([33]:List Nat))⟩
                    have ok9:Fct (JoinOk (ofString "-") ((List.range (#[Value.str (⟨([33]++[p]:List Nat).toArray⟩:Str) t1,Value.str (⟨#[q]⟩:Str) t2]:Array Value).size).map (fun i=>if i=0 then (⟨([33]++[p]:List Nat).toArray⟩:Str) else ⟨#[q]⟩))=true):=⟨rfl⟩
                    have nh:Fct (noHit [33,p,45,q]=true):=⟨(noHit_rng hp9 hq9).2⟩
                    have q1:Fct ((((⟨[33,p,45,q].toArray⟩:Str).length:Int) != 0)=true):=⟨by simp [Str.length]⟩
                    have q1b:Fct ((!(((⟨[33,p,45,q].toArray⟩:Str).length:Int) != 0))=false):=⟨by simp [Str.length]⟩
                    have q2:Fct (((⟨[33,p,45,q].toArray⟩:Str) == ofString "!")=false):=⟨by have:=strEq [33,p,45,q] [33];refine Eq.trans this ?_;simp⟩
                    have q3:Fct (Txt.item ⟨[33,p,45,q].toArray⟩ 0=ofString "!"):=⟨by rw [itemN _ (by omega) (by simp)];rfl⟩
                    have q4:Fct (Txt.slice ⟨[33,p,45,q].toArray⟩ (some 1) none=⟨[p,45,q].toArray⟩):=⟨slice_tail⟩
                    have hl0:(⟨[33,p,45,q].toArray⟩:Str).length=4:=by simp [Str.length]
                    have hds : [33,p,45,q].length≤100:=by simp
                    k_steps
                    show wpAny _ _ _ _ _ _
                    (rename Fr _ _ _ _=>F5);(rename News g _ _ _=>N5)
                    have hl57 : @Ne Nat lc 57:=by (show @Ne Nat _ _);omega
                    refine' gen_N (tx:=fun i=>if i=0 then (⟨([33]++[p]:List Nat).toArray⟩:Str) else ⟨#[q]⟩) (l:=lc) F5 N5 T G3 C rfl rfl ?zU hps' (by decide) ?zl hl57 ?znm rfl rfl rfl ?zcell rfl rfl rfl ?zroom ?zquiet ?zgo ?zhs
                    case zU=>k_updF
                    case zl=>k_mem
                    case znm=>(intro Q' hQ';k_steps;exact hQ')
                    case zcell=>decide
                    case zroom=>(show _ < 1000;(k_extra "s1");(try dsimp only);omega)
                    case zquiet =>
                      intro code h9 href
                      k_extra "r37"
                      case e1 =>
                        intro i hi
                        match i,hi with
                        | 0,_=>exact occNo (k:=92) (hcp 92 (by omega) (by omega))
                        | 1,_=>exact occNo (k:=92) (l:=[q]) (by intro c hc;(replace hc:=hc;simp at hc);omega)
                      case e2 =>
                        intro i hi
                        match i,hi with
                        | 0,_=>exact occNo (k:=45) (hcp 45 (by omega) (by omega))
                        | 1,_=>exact occNo (k:=45) (l:=[q]) (by intro c hc;(replace hc:=hc;simp at hc);omega)
                    case zhs=>(intro _;rfl)
                    case zgo =>
                      clear F5 N5
                      intro b9 h9 g9 tk9 ps9 h57' F9 N9 G9 X9
                      (try (replace N9:=N9;replace X9:=X9;dsimp only at N9 X9))
                      k_steps
                      (rename AllBare _=>G7)
                      (rename News _ _ _ _=>N7);(replace N7:=N7;rw [fstr1] at N7)
                      k_extra "r30"
                      k_extra "r38"
theorem translate:∀ (segs:List Seg) (hok:∀ g∈segs,g.ok) (hl:(sgT segs).length≤50) (t ts tq:Tok) (h0 : ts≠0) (htq : ts < tq),SpecT 62 8 [.str ⟨(sgT segs).toArray⟩ t,.str (ofString "many") ts,.str (ofString "any") tq] (ts+2) (PNew fun o=>∃ its n,o=listOf its n∧Its ts its.toList (sgP segs)) (fun mv=>∃ ps,mv=[(57,tabObj ps)]∧T57 posL posG ps) (fun mv=>∃ ps,mv=[(57,tabObj ps)]∧T57 posL posG ps):=fun segs hok hl t ts tq h0 htq=>translate_P segs t ts tq hok hl h0 htq
end
noncomputable def Tabs (mv : List (Addr × Obj)) : Prop := ∃ oA cA ocA oB cB ocB o7 c7 oc7 ps, mv = [(100, oA), (cA, ocA), (107, oB), (cB, ocB), (72, o7), (c7, oc7), (57, tabObj ps)] ∧
  TabSt 100 162 4 (ofString "_int2digits.<locals>.inner") oA cA ocA∧TabSt 107 177 4 (ofString "_digits2int.<locals>.inner") oB cB ocB∧TabSt 72 122 4 (ofString "_str_to_int_inner.<locals>.inner") o7 c7 oc7∧T57 posL posG ps
theorem tabSt_like {P c:Addr} {l k:Nat} {q:Str} {o oc:Obj} (h:TabSt P l k q o c oc):TabLike o∧TabLike oc:=by
  cases h with
  | none=>exact ⟨tabLike_tab (.inl rfl),tabLike_tab (.inl rfl)⟩
  | full h1 h2=>exact ⟨tabLike_tab (.inr ⟨_,_,rfl⟩),tabLike_code h1 h2⟩
theorem tabs_like {mv:List (Addr×Obj)} (h:Tabs mv):∀ p∈mv,TabLike p.2:=by
  obtain ⟨oA,cA,ocA,oB,cB,ocB,o7,c7,oc7,ps,rfl,a,b,c,d⟩:=h
  have a':=tabSt_like a;have b':=tabSt_like b;have c':=tabSt_like c;have d':=t57_like d
  exact List.forall_mem_cons.mpr ⟨a'.1,List.forall_mem_cons.mpr ⟨a'.2,List.forall_mem_cons.mpr ⟨b'.1,List.forall_mem_cons.mpr ⟨b'.2,List.forall_mem_cons.mpr ⟨c'.1,List.forall_mem_cons.mpr ⟨c'.2,List.forall_mem_cons.mpr ⟨d',List.forall_mem_nil _⟩⟩⟩⟩⟩⟩⟩
theorem tab57Ne {h₀ h:Heap} {L:Addr} {all:List (Addr×Obj)} {P c:Addr} {l k:Nat} {q:Str} {o oc:Obj} {pl pg:Pos} {ps:Array Value} (s1:TabSt P l k q o c oc) (h57:T57 pl pg ps) (N:News h₀ L h all) (m2:(c,oc)∈all) (m3:(57,tabObj ps)∈all) (hP : @Ne Nat P 57) : @Ne Nat c 57:=by
  cases s1 with
  | none=>exact hP
  | full h1 h2 =>
    refine neObj N m2 m3 fun e=>?_
    subst e
    cases h1
    have ht:=h57.tri
    cases ps with
    | mk l =>
      match l,ht,h2 with
      | [],_,h2=>simp at h2
      | [_],_,h2=>simp at h2
      | a::b::r,ht,h2 =>
        simp at h2
        subst h2
        cases a<;>simp [TriplesOk] at ht
inductive SplA (t : List (Addr × Obj)) : List (Addr × Obj) → List (Addr × Obj) → Prop
  | here:SplA t t []
  | skip {q:Addr×Obj} {all pre:List (Addr×Obj)} (h:Apart q.2) (r:SplA t all pre):SplA t (q::all) (q::pre)
theorem SplA.eq {t all pre:List (Addr×Obj)} (h:SplA t all pre) : all=pre++t∧∀ q∈pre,Apart q.2:=by
  induction h with
  | here=>exact ⟨rfl,fun q hq=>absurd hq List.not_mem_nil⟩
  | skip h _ ih =>
    refine ⟨by rw [ih.1];rfl,fun q hq=>?_⟩
    rcases List.mem_cons.mp hq with rfl | hq
    · exact h
    · exact ih.2 q hq
theorem specM_X {f:Addr} {D:Nat} {vs:List Value} {Pre:Heap→Prop} {Post:Heap→Value→Heap→Prop} {O O':List (Addr×Obj)→Prop} (x:sM f D vs Pre Post O O'):SpecX f D vs Pre Post O O':=by
  intros prog w p loose mean mg mb A env outer A₀ base h₀ L m s Q E mv B F Nm hO X T hG c1 c2 c3 c4 d u hp hret
  exact x B F Nm hO X T c1 c2 c3 c4 d u hp fun v h' tk' mv' a b c e z=>hret v h' s.gens s.drawn tk' mv' a b c e hG z
theorem callS {f : Addr} {D : Nat} {vs : List Value} {Post : Heap → Value → Heap → Prop} {O O' : List (Addr × Obj) → Prop} (spec : SpecX f D vs nPr Post O O')
    {prog:Program} {w:World} {p:Program} {loose:List Str} {mean:ExcName→Option Value} {mg mb:Str→Option Value} {A:Around} {env:Env} {outer:List Env} {A₀:Around} {base h₀:Heap} {L:Addr} {m:Str→Option Value} {s:Shared} {Q E:Value→Shared→Prop} {pre m1 m2 m3:List (Addr×Obj)}
    (B:Below A₀ base outer h₀) (F:Fr h₀ L s.heap m) (N:News h₀ L s.heap (pre++(m2++(m1++m3)))) (hO:O m1) (off:∀ q∈pre++(m2++m3),∀ p∈m1,p.1≠q.1) (X:(hd.heap_1 w.params).In h₀) (T:Top p loose mean mg mb h₀) (G:AllBare s.gens)
    (c1:A.handled=none) (c2:A.frames=some (env::outer)) (c3 : env.frame=some L) (c4 : env.scope.kind=.function) (hd1:A.depth+D < 500) (hu:A.units+10*D < 5000)
    (k:∀ v h' g' d' tk' m1',Fr h₀ L h' m→News h₀ L h' (pre++(m2++(m1'++m3)))→O' m1'→AllBare g'→Post (gnd s.heap m1) v h'→(∀ a o,(gnd s.heap m1).get? a=none→h'.get? a=some o→(∀ R:Prop,(News h₀ L h' ((a,o)::(pre++(m2++(m1'++m3))))→R)→R))→Q v { heap:=h',gens:=g',drawn:=d',toks:=tk',os:=s.os }) :
    wpAny (model prog w) A (call (.ref f) vs) Q E s:=by
  have Nm:News h₀ L s.heap m1:=fun p hp=>N p (List.mem_append_right _ (List.mem_append_right _ (List.mem_append_left _ hp)))
  have Nr:News h₀ L s.heap (pre++(m2++m3)):=fun p hp=>N p (by
    rcases List.mem_append.mp hp with hp | hp
    · exact List.mem_append_left _ hp
    · rcases List.mem_append.mp hp with hp | hp
      · exact List.mem_append_right _ (List.mem_append_left _ hp)
      · exact List.mem_append_right _ (List.mem_append_right _ (List.mem_append_right _ hp)))
  have mm:∀ {m1':List (Addr×Obj)} {p:Addr×Obj},p∈pre++(m2++(m1'++m3))→p∈m1'++(pre++(m2++m3)):=fun hp=>by
    rcases List.mem_append.mp hp with hp | hp
    · exact List.mem_append_right _ (List.mem_append_left _ hp)
    · rcases List.mem_append.mp hp with hp | hp
      · exact List.mem_append_right _ (List.mem_append_right _ (List.mem_append_left _ hp))
      · rcases List.mem_append.mp hp with hp | hp
        · exact List.mem_append_left _ hp
        · exact List.mem_append_right _ (List.mem_append_right _ (List.mem_append_right _ hp))
  refine spec B F Nm hO X T G c1 c2 c3 c4 hd1 hu trivial fun v h' g' d' tk' mv' st hz out hO' hG hp=>?_
  have ho:=offOf off
  have N2:=newsM F Nm Nr ho st out
  refine k v h' g' d' tk' mv' (frM F Nm st) (fun p hp=>N2 p (mm hp)) hO' hG hp fun a o hn hg R kR=>kR fun p hp=>?_
  rcases List.mem_cons.mp hp with rfl | hp
  · exact newsM F Nm Nr ho st (MvOut.cons hn hg out) _ (.head _)
  · exact N2 p (mm hp)
section
variable {prog : Program} {w : World} {p : Program} {loose : List Str} {mean : ExcName → Option Value} {mg mb : Str → Option Value} {A : Around} {env : Env} {outer : List Env} {A₀ : Around} {base h₀ : Heap} {L : Addr} {m : Str → Option Value} {s : Shared} {Q E : Value → Shared → Prop} {all pre mv as : List (Addr × Obj)}
  {f:Addr} {D:Nat} {vs:List Value} {R:Obj→Prop} {Post:Heap→Value→Heap→Prop}
theorem callAB (spec : sM f D vs nPr Post tX tX) (B : Below A₀ base outer h₀) (F : Fr h₀ L s.heap m) (N : News h₀ L s.heap all) (hs : SplA (mv ++ as) all pre) (hT : Tabs mv) (has : ∀ q ∈ as, Apart q.2) (X : (hd.heap_1 w.params).In h₀) (T : Top p loose mean mg mb h₀) (G : AllBare s.gens)
    (c1:A.handled=none) (c2:A.frames=some (env::outer)) (c3 : env.frame=some L) (c4 : env.scope.kind=.function) (hd1:A.depth+D < 500) (hu:A.units+10*D < 5000)
    (k:∀ v h' g' d' tk' mv' g0,Fr h₀ L h' m→News h₀ L h' (pre++(mv'++as))→Tabs mv'→AllBare g'→Post g0 v h'→(∀ a o,g0.get? a=none→h'.get? a=some o→News h₀ L h' ((a,o)::(pre++(mv'++as))))→Q v { heap:=h',gens:=g',drawn:=d',toks:=tk',os:=s.os }) :
    wpAny (model prog w) A (call (.ref f) vs) Q E s:=by
  obtain ⟨rfl,hap⟩:=hs.eq
  have hlk:=tabs_like hT
  obtain ⟨oA,cA,ocA,oB,cB,ocB,o7,c7,oc7,ps,rfl,a,b,c,d⟩:=hT
  k_extra "r39"
  k_extra "r40"
  k_extra "r41"
  have n7:=tab57Ne a d N (mem (by simp)) (mem (by simp)) (by decide)
  have n8:=tab57Ne b d N (mem (by simp)) (mem (by simp)) (by decide)
  refine callS (specM_X spec) (pre:=pre) (m2:=[]) (m1:=[(100,oA),(cA,ocA),(107,oB),(cB,ocB)]) (m3:=[(72,o7),(c7,oc7),(57,tabObj ps)]++as) B F N ⟨_,_,_,_,_,_,rfl,a,b⟩ ?_ X T G c1 c2 c3 c4 hd1 hu ?_
  · have hN2:=apart_off (rest:=pre++as) (mv:=[(100,oA),(cA,ocA),(107,oB),(cB,ocB)]) N (fun p hp=>by
      have hp' : p∈[(100,oA),(cA,ocA),(107,oB),(cB,ocB),(72,o7),(c7,oc7),(57,tabObj ps)]:=by
        simp only [List.mem_cons,List.not_mem_nil,or_false] at hp ⊢
        rcases hp with h | h | h | h<;>simp [h]
      exact ⟨hlk p hp',mem hp'⟩) (fun q hq=>by
      rcases List.mem_append.mp hq with hq | hq
      · exact ⟨hap q hq,List.mem_append_left _ hq⟩
      · exact ⟨has q hq,List.mem_append_right _ (List.mem_append_right _ hq)⟩)
    intros q hq p hp
    rcases List.mem_append.mp hq with hq | hq
    · exact hN2 q (List.mem_append_left _ hq) p hp
    · rcases List.mem_append.mp (show q ∈ [(72, o7), (c7, oc7), (57, tabObj ps)] ++ as from hq) with hq | hq
      · simp only [List.mem_cons, List.not_mem_nil, or_false] at hp hq
        rcases hp with rfl | rfl | rfl | rfl <;> rcases hq with rfl | rfl | rfl <;>
          first | exact n1 | exact n2 | exact n3 | exact n4 | exact n5 | exact n6 | exact n7 | exact n8 | exact (by decide:(100:Nat)≠72) | exact (by decide:(100:Nat)≠57) | exact (by decide:(107:Nat)≠72) | exact (by decide:(107:Nat)≠57)
      · exact hN2 q (List.mem_append_right _ hq) p hp
  · rintro v h' g' d' tk' m1' F' N' ⟨oA', cA', ocA', oB', cB', ocB', rfl, a', b'⟩ hG hp hn
    exact k v h' g' d' tk' [(100,oA'),(cA',ocA'),(107,oB'),(cB',ocB'),(72,o7),(c7,oc7),(57,tabObj ps)] (gnd s.heap [(100,oA),(cA,ocA),(107,oB),(cB,ocB)]) F' N' ⟨_,_,_,_,_,_,_,_,_,_,rfl,a',b',c,d⟩ hG hp fun a9 o9 h1 h2=>hn a9 o9 h1 h2 _ fun z=>z
theorem call7 (spec : SpecX f D vs nPr Post (Tab1 72 122 4 (ofString "_str_to_int_inner.<locals>.inner")) (Tab1 72 122 4 (ofString "_str_to_int_inner.<locals>.inner"))) (B : Below A₀ base outer h₀) (F : Fr h₀ L s.heap m) (N : News h₀ L s.heap all) (hs : SplA (mv ++ as) all pre) (hT : Tabs mv) (has : ∀ q ∈ as, Apart q.2) (X : (hd.heap_1 w.params).In h₀) (T : Top p loose mean mg mb h₀) (G : AllBare s.gens)
    (c1:A.handled=none) (c2:A.frames=some (env::outer)) (c3 : env.frame=some L) (c4 : env.scope.kind=.function) (hd1:A.depth+D < 500) (hu:A.units+10*D < 5000)
    (k:∀ v h' g' d' tk' mv' g0,Fr h₀ L h' m→News h₀ L h' (pre++(mv'++as))→Tabs mv'→AllBare g'→Post g0 v h'→(∀ a o,g0.get? a=none→h'.get? a=some o→News h₀ L h' ((a,o)::(pre++(mv'++as))))→Q v { heap:=h',gens:=g',drawn:=d',toks:=tk',os:=s.os }) :
    wpAny (model prog w) A (call (.ref f) vs) Q E s:=by
  obtain ⟨rfl,hap⟩:=hs.eq
  have hlk:=tabs_like hT
  obtain ⟨oA,cA,ocA,oB,cB,ocB,o7,c7,oc7,ps,rfl,a,b,c,d⟩:=hT
  k_extra "r39"
  k_extra "r40"
  k_extra "r41"
  have n7:=tab57Ne c d N (mem (by simp)) (mem (by simp)) (by decide)
  refine callS spec (pre:=pre) (m2:=[(100,oA),(cA,ocA),(107,oB),(cB,ocB)]) (m1:=[(72,o7),(c7,oc7)]) (m3:=[(57,tabObj ps)]++as) B F N ⟨_,_,_,rfl,c⟩ ?_ X T G c1 c2 c3 c4 hd1 hu ?_
  · have hN2:=apart_off (rest:=pre++as) (mv:=[(72,o7),(c7,oc7)]) N (fun p hp=>by
      have hp' : p∈[(100,oA),(cA,ocA),(107,oB),(cB,ocB),(72,o7),(c7,oc7),(57,tabObj ps)]:=by
        simp only [List.mem_cons,List.not_mem_nil,or_false] at hp ⊢
        rcases hp with h | h<;>simp [h]
      exact ⟨hlk p hp',mem hp'⟩) (fun q hq=>by
      rcases List.mem_append.mp hq with hq | hq
      · exact ⟨hap q hq,List.mem_append_left _ hq⟩
      · exact ⟨has q hq,List.mem_append_right _ (List.mem_append_right _ hq)⟩)
    intros q hq p hp
    rcases List.mem_append.mp hq with hq | hq
    · exact hN2 q (List.mem_append_left _ hq) p hp
    · rcases List.mem_append.mp (show q ∈ [(100, oA), (cA, ocA), (107, oB), (cB, ocB), (57, tabObj ps)] ++ as from hq) with hq | hq
      · simp only [List.mem_cons, List.not_mem_nil, or_false] at hp hq
        rcases hp with rfl | rfl <;> rcases hq with rfl | rfl | rfl | rfl | rfl <;>
          first | exact Ne.symm n1 | exact Ne.symm n2 | exact Ne.symm n3 | exact Ne.symm n4 | exact Ne.symm n5 | exact Ne.symm n6 | exact n7 | exact (by decide:(72:Nat)≠100) | exact (by decide:(72:Nat)≠107) | exact (by decide:(72:Nat)≠57)
      · exact hN2 q (List.mem_append_right _ hq) p hp
  · rintro v h' g' d' tk' m1' F' N' ⟨o7', c7', oc7', rfl, c'⟩ hG hp hn
    exact k v h' g' d' tk' [(100,oA),(cA,ocA),(107,oB),(cB,ocB),(72,o7'),(c7',oc7'),(57,tabObj ps)] (gnd s.heap [(72,o7),(c7,oc7)]) F' N' ⟨_,_,_,_,_,_,_,_,_,_,rfl,a,b,c',d⟩ hG hp fun a9 o9 h1 h2=>hn a9 o9 h1 h2 _ fun z=>z
end
noncomputable def dX (n:Nat):List Nat:=(figs n).map fun x=>48+x.toNat
noncomputable def cN (N:Nat):Str:=⟨(dX (N / 1000)).toArray⟩
noncomputable def dN (N:Nat):Str:=⟨#[48+N % 1000 / 100,48+N % 1000 / 10 % 10,48+N % 1000 % 10]⟩
noncomputable def csN (N:Nat):List Nat:=47::(dX (N / 1000)++47::[48+N % 1000 / 100,48+N % 1000 / 10 % 10,48+N % 1000 % 10])
noncomputable def frN (N:Nat):Str:=⟨(47::dX (N / 1000)).toArray⟩
example:True:=by
  k_with "oand"=>apply Lx.l37<;>assumption
  k_with "oeqN"=>apply Lx.l129
  k_with "ox"=>apply Lx.l53
  k_with "ox"=>apply Lx.l82
  k_with "oeqN"=>apply Lx.l137<;>assumption
  k_with "oleN"=>apply Lx.l427<;>assumption
  k_with "oeqN"=>apply Lx.l328<;>assumption
  k_with "of"=>apply Lx.l234<;>assumption
  k_with "of"=>apply Lx.l29<;>assumption
  k_with "of"=>apply Lx.l92<;>assumption
  k_with "oeqN"=>apply Lx.l113<;>assumption
  k_with "oand"=>apply Lx.l173<;>assumption
  k_with "oeqI"=>apply Lx.l138<;>assumption
  k_with "oleN"=>apply Lx.l546<;>assumption
  k_with "oand"=>apply Lx.l273<;>assumption
  k_with "oeqN"=>apply Lx.l246<;>assumption
  k_with "ox"=>apply Lx.l97<;>assumption
  k_with "ox"=>apply Lx.l21
  k_with "of"=>apply Lx.l168<;>assumption
  k_with "oeqN"=>apply Lx.l229<;>assumption
  k_with "oeqN"=>apply Lx.l321<;>assumption
  k_with "ox"=>apply Lx.l23
  k_with "oleN"=>apply Lx.l400<;>assumption
  k_with "ox"=>apply Lx.l245
  k_with "oand"=>apply Lx.l142<;>assumption
  k_with "of"=>apply Lx.l344<;>assumption
  k_with "of"=>apply Lx.l220<;>assumption
  k_with "oeqN"=>apply Lx.l318<;>assumption
  trivial
theorem foldl_parts:∀ (l:List Seg) (ps:List Str),(∀ g∈l,g.ok)→NoTwo l=true→(l.head?=some .star→ps.getLast?≠some many)→l.foldl (fun ps g=>g.step ps) ps=ps++l.map sPa:=by
  intros l
  induction l with
  | nil=>intros ps _ _ _;simp
  | cons g l ih =>
    intros ps hok hn hs
    rw [List.foldl_cons]
    by_cases hg : g=.star
    · subst hg
      rw [step_star (hs rfl),ih _ (fun x hx=>hok x (.tail _ hx)) ?_ ?_]
      · simp [sPa]
      · cases l with
        | nil=>rfl
        | cons x l=>cases x<;>first | (simp [NoTwo] at hn;done) | exact hn
      · intros h
        cases l with
        | nil=>simp at h
        | cons x l=>simp at h;subst h;simp [NoTwo] at hn
    · rw [step_seg hg, ih _ (fun x hx => hok x (.tail _ hx)) ?_ ?_]
      · simp
      · cases g<;>first | exact absurd rfl hg | exact hn
      · intros _ h
        simp at h
        have:=seg_not_many (hok g (.head _)) hg
        rw [h] at this
        simp [many] at this
theorem parts_map {l:List Seg} (hok:∀ g∈l,g.ok) (hn:NoTwo l=true) : sgP l=l.map sPa:=by
  have:=foldl_parts l [] hok hn (fun _=>by simp)
  simpa [sgP] using this
theorem reach_sm {l:List Seg} {cs:List Nat} (hok:∀ g∈l,g.ok) (hn:NoTwo l=true) (hc:∀ c∈cs,47≤c) : reach signF cs (sgP l) cs.length=true↔Sm l cs:=by
  rw [reach_mt,parts_map hok hn,mt_sm hok hc]
section
variable {D:List Nat} {a b c p q r:Nat}
noncomputable def csD (D:List Nat) (a b c:Nat):List Nat:=47::(D.map (48+·)++47::[48+a,48+b,48+c])
theorem csD_ge (D:List Nat) (a b c:Nat):∀ x∈csD D a b c,47≤x:=by
  intros x hx
  simp only [csD,List.mem_cons,List.mem_append,List.mem_map,List.not_mem_nil,or_false] at hx
  rcases hx with h | ⟨y,_,h⟩ | h | h | h | h<;>omega
theorem cs_last {u:List Nat} {x1 x2 x3 x4:Nat} (e : csD D a b c=u++[x1,x2,x3,x4]) : x1=47∧x2=48+a∧x3=48+b∧x4=48+c:=by
  have e1:(47::D.map (48+·))++[47,48+a,48+b,48+c]=u++[x1,x2,x3,x4]:=by rw [← e];simp [csD]
  have:=(List.append_inj' e1 rfl).2
  simp at this
  omega
theorem sg47 {x:Nat} : segB (.sign 47) x=true↔x=47:=by
  show (47 == x)=true↔x=47
  rw [beq_iff_eq]
  exact eq_comm
theorem k1:Sm [.star,.sign 47,.ques,.ques,.cls false [48+p,48+q]] (csD D a b c)↔(p=c∨q=c):=by
  constructor
  · rintro ⟨u, _, e, x1, _, rfl, h1, x2, _, rfl, _, x3, _, rfl, _, x4, _, rfl, h4, rfl⟩
    obtain ⟨_,_,_,h⟩:=cs_last e
    simp [segB] at h4
    omega
  · intros h
    refine ⟨47::D.map (48+·),[47,48+a,48+b,48+c],by simp [csD],47,_,rfl,rfl,_,_,rfl,rfl,_,_,rfl,rfl,_,_,rfl,?_,rfl⟩
    simp [segB]
    omega
theorem k2:Sm [.star,.sign 47,.ques,.cls true [48+p,48+q],.ques] (csD D a b c)↔¬ (p=b∨q=b):=by
  constructor
  · rintro ⟨u, _, e, x1, _, rfl, h1, x2, _, rfl, _, x3, _, rfl, h3, x4, _, rfl, _, rfl⟩
    obtain ⟨_,_,h,_⟩:=cs_last e
    simp [segB] at h3
    omega
  · intros h
    refine ⟨47::D.map (48+·),[47,48+a,48+b,48+c],by simp [csD],47,_,rfl,rfl,_,_,rfl,rfl,_,_,rfl,?_,_,_,rfl,rfl,rfl⟩
    simp [segB]
    omega
theorem k3 (hd:∀ x∈D,x < 10) (ha : a < 10) (hD:D≠[]):Sm [.sign 47,.rng false (48+p) (48+q),.ques,.sign 47,.star] (csD D a b c)↔(D.length=2∧p≤D.headD 0∧D.headD 0≤q):=by
  constructor
  · rintro ⟨x1, _, e, h1, x2, _, rfl, h2, x3, _, rfl, _, x4, _, rfl, h4, _⟩
    rw [sg47] at h4
    subst h4
    simp only [csD,List.cons.injEq] at e
    obtain ⟨_,e⟩:=e
    match D,hd,hD with
    | [y],hd,_=>simp at e;omega
    | [y,z],hd,_=>simp at e;simp [segB] at h2;simp;omega
    | y::z::t::r,hd,_ =>
      simp at e
      have:=hd t (by simp)
      omega
  · rintro ⟨h1, h2, h3⟩
    match D,h1 with
    | [y,z],_ =>
      simp at h2 h3
      refine ⟨47,_,rfl,rfl,48+y,_,rfl,?_,48+z,_,rfl,rfl,47,_,rfl,rfl,[48+a,48+b,48+c],[],by simp,rfl⟩
      simp [segB]
      omega
theorem k5 (hr : r < 10):Sm [.star,.sign (48+r),.star] (csD D a b c)↔(r∈D∨r=a∨r=b∨r=c):=by
  constructor
  · rintro ⟨u, _, e, x1, _, rfl, h1, u2, _, rfl, rfl⟩
    have hm : x1∈csD D a b c:=by rw [e];simp
    simp [segB] at h1
    subst h1
    simp only [csD,List.mem_cons,List.mem_append,List.mem_map,List.not_mem_nil,or_false] at hm
    rcases hm with h | ⟨y,hy,h⟩ | h | h | h | h
    · omega
    · have : y = r := by omega
      exact .inl (this ▸ hy)
    · omega
    · right;left;omega
    · right;right;left;omega
    · right;right;right;omega
  · intros h
    have hm:(48+r)∈csD D a b c:=by
      simp only [csD,List.mem_cons,List.mem_append,List.mem_map,List.not_mem_nil,or_false]
      rcases h with h | h | h | h
      · exact .inr (.inl ⟨r,h,rfl⟩)
      · simp [h]
      · simp [h]
      · simp [h]
    obtain ⟨u,v,e⟩:=List.append_of_mem hm
    exact ⟨u,(48+r)::v,e,48+r,v,rfl,by simp [segB],v,[],by simp,rfl⟩
theorem k6:Sm [.star,.sign (48+r),.sign (48+r)] (csD D a b c)↔(b=r∧c=r):=by
  constructor
  · rintro ⟨u, _, e, x1, _, rfl, h1, x2, _, rfl, h2, rfl⟩
    have e1:(47::(D.map (48+·)++[47,48+a]))++[48+b,48+c]=u++[x1,x2]:=by rw [← e];simp [csD]
    have:=(List.append_inj' e1 rfl).2
    simp [segB] at h1 h2
    simp at this
    omega
  · rintro ⟨h1, h2⟩
    exact ⟨47::(D.map (48+·)++[47,48+a]),[48+b,48+c],by simp [csD],48+b,[48+c],rfl,by simp [segB];omega,48+c,[],rfl,by simp [segB];omega,rfl⟩
theorem k7 (hd:∀ x∈D,x < 10) (hD:D≠[]) (hr : r < 10):Sm [.sign 47,.sign (48+r),.sign 47,.star] (csD D a b c)↔D=[r]:=by
  constructor
  · rintro ⟨x1, _, e, h1, x2, _, rfl, h2, x3, _, rfl, h3, _⟩
    rw [sg47] at h3
    subst h3
    simp [segB] at h2
    subst h2
    simp only [csD,List.cons.injEq] at e
    obtain ⟨_,e⟩:=e
    match D,hd,hD with
    | [y],hd,_=>simp at e;simp;omega
    | y::z::t,hd,_ =>
      simp at e
      have:=hd z (by simp)
      omega
  · rintro rfl
    exact ⟨47,_,rfl,rfl,48+r,_,rfl,by simp [segB],47,_,rfl,rfl,[48+a,48+b,48+c],[],by simp,rfl⟩
theorem split47 {F:List Nat} {t u v:List Nat} {y:Nat} (hF:∀ x∈F,x≠47) (ht:∀ x∈t,x≠47) (e:F++47::t=u++y::47::v):F=u++[y]∧t=v:=by
  have e1:F++47::t=(u++[y])++47::v:=by rw [e];simp
  rcases List.append_eq_append_iff.mp e1 with ⟨z,e2,e3⟩ | ⟨z,e2,e3⟩
  · cases z with
    | nil=>simp at e2 e3;exact ⟨e2.symm,e3⟩
    | cons w z =>
      simp at e3
      exact absurd rfl (ht 47 (by rw [e3.2];simp))
  · cases z with
    | nil=>simp at e2 e3;exact ⟨e2,e3.symm⟩
    | cons w z =>
      simp at e3
      exact absurd e3.1.symm (hF w (by rw [e2];simp))
theorem lastD_snoc (y z:Nat) (l:List Nat):(y::(l++[z])).getLastD 0=z:=by
  have e : y::(l++[z])=(y::l)++[z]:=rfl
  rw [e,List.getLastD_concat]
theorem k8 (hd:∀ x∈D,x < 10) (hD:D≠[]) (ha : a < 10) (hb : b < 10) (hc : c < 10):Sm [.sign 47,.cls true [48+p],.star,.cls true [48+q],.sign 47,.star] (csD D a b c)↔(1 < D.length∧D.headD 0≠p∧D.getLastD 0≠q):=by
  have hF:∀ x∈D.map (48+·),x≠47:=by intros x hx;simp at hx;obtain ⟨y,_,rfl⟩:=hx;omega
  have ht:∀ x∈[48+a,48+b,48+c],x≠47:=by intros x hx;simp at hx;omega
  constructor
  · rintro ⟨x1, _, e, h1, x2, _, rfl, h2, u, _, rfl, x3, _, rfl, h3, x4, v, rfl, h4, _⟩
    rw [sg47] at h4
    subst h4
    simp only [csD,List.cons.injEq] at e
    obtain ⟨_,e⟩:=e
    have e2:=(split47 (u:=x2::u) (y:=x3) (v:=v) hF ht (by rw [e];simp)).1
    cases D with
    | nil=>exact absurd rfl hD
    | cons y D =>
      simp at e2
      obtain ⟨e3,e4⟩:=e2
      simp [segB] at h2 h3
      have hl:D.map (48+·)=u++[x3]:=e4
      have hl2:D≠[]:=by intros h;rw [h] at hl;simp at hl
      refine ⟨by cases D with | nil=>exact absurd rfl hl2 | cons _ _=>simp,by simp;omega,?_⟩
      obtain ⟨D',z,rfl⟩:∃ D' z,D=D'++[z]:=⟨D.dropLast,D.getLast hl2,(List.dropLast_concat_getLast hl2).symm⟩
      rw [List.map_append] at hl
      have:=(List.append_inj' hl rfl).2
      simp at this
      rw [lastD_snoc]
      omega
  · rintro ⟨h1, h2, h3⟩
    cases D with
    | nil=>exact absurd rfl hD
    | cons y D =>
      have hl2:D≠[]:=by intros h;rw [h] at h1;simp at h1
      obtain ⟨D',z,rfl⟩:∃ D' z,D=D'++[z]:=⟨D.dropLast,D.getLast hl2,(List.dropLast_concat_getLast hl2).symm⟩
      have h3' : z≠q:=by
        intros h
        apply h3
        rw [lastD_snoc]
        exact h
      simp at h2
      refine ⟨47,_,rfl,rfl,48+y,_,rfl,?_,D'.map (48+·),(48+z)::47::[48+a,48+b,48+c],by simp,48+z,_,rfl,?_,47,_,rfl,rfl,[48+a,48+b,48+c],[],by simp,rfl⟩
      · simp [segB];omega
      · simp [segB];omega
theorem k9 (hd:∀ x∈D,x < 10) (hD:D≠[]) (ha : a < 10) (hb : b < 10) (hc : c < 10) (hq : q < 10):Sm [.star,.sign 47,.sign (48+q),.star,.sign (48+r)] (csD D a b c)↔((D.headD 0=q∨a=q)∧c=r):=by
  have hF:∀ x∈D.map (48+·),x≠47:=by intros x hx;simp at hx;obtain ⟨y,_,rfl⟩:=hx;omega
  have ht:∀ x∈[48+a,48+b,48+c],x≠47:=by intros x hx;simp at hx;omega
  constructor
  · rintro ⟨u, _, e, x1, _, rfl, h1, x2, _, rfl, h2, v, _, rfl, x3, _, rfl, h3, rfl⟩
    rw [sg47] at h1
    subst h1
    simp [segB] at h2 h3
    subst h2 h3
    have elast:(47::(D.map (48+·)++[47,48+a,48+b]))++[48+c]=(u++47::(48+q)::v)++[48+r]:=by
      have : csD D a b c=(u++47::(48+q)::v)++[48+r]:=by rw [e];simp
      rw [← this];simp [csD]
    have e5:=List.append_inj' elast rfl
    refine ⟨?_,by have:=e5.2;simp at this;omega⟩
    cases u with
    | nil =>
      left
      simp at e5
      cases D with
      | nil=>exact absurd rfl hD
      | cons y D=>have:=e5.1;simp at this;simp;omega
    | cons w u =>
      right
      have e6:=e5.1
      simp at e6
      obtain ⟨_,e6⟩:=e6
      rcases List.append_eq_append_iff.mp e6 with ⟨z,e7,e8⟩ | ⟨z,e7,e8⟩
      · cases z with
        | nil=>simp at e8;omega
        | cons w z =>
          simp at e8
          obtain ⟨_,e8⟩:=e8
          have:(47:Nat)∈[48+a,48+b]:=by rw [e8];simp
          simp at this
          omega
      · cases z with
        | nil=>simp at e8;omega
        | cons w z =>
          simp at e8
          exact absurd e8.1.symm (hF w (by rw [e7];simp))
  · rintro ⟨h1, rfl⟩
    rcases h1 with h1 | rfl
    · cases D with
      | nil=>exact absurd rfl hD
      | cons y D =>
        simp at h1
        subst h1
        exact ⟨[],_,by simp;rfl,47,_,rfl,rfl,48+y,_,rfl,by simp [segB],D.map (48+·)++[47,48+a,48+b],[48+c],by simp,48+c,_,rfl,by simp [segB],rfl⟩
    · exact ⟨47::D.map (48+·),[47,48+a,48+b,48+c],by simp [csD],47,_,rfl,rfl,48+a,_,rfl,by simp [segB],[48+b],[48+c],by simp,48+c,_,rfl,by simp [segB],rfl⟩
theorem k10:Sm [.star,.rng true (48+q) (48+p)] (csD D a b c)↔¬ (q≤c∧c≤p):=by
  constructor
  · rintro ⟨u, _, e, x1, _, rfl, h1, rfl⟩
    have e1:(47::(D.map (48+·)++[47,48+a,48+b]))++[48+c]=u++[x1]:=by rw [← e];simp [csD]
    have:=(List.append_inj' e1 rfl).2
    simp [segB] at h1
    simp at this
    omega
  · intros h
    refine ⟨47::(D.map (48+·)++[47,48+a,48+b]),_,by simp [csD],48+c,_,rfl,?_,rfl⟩
    simp [segB]
    omega
end
theorem bEq {x y:Bool} {P:Prop} (h1 : x=true↔P) (h2 : y=true↔P) : x=y:=by
  rw [Bool.eq_iff_iff,h1,h2]
theorem law_core (D : List Nat) (hD : D ≠ []) (hd : ∀ x ∈ D, x < 10) {a b c p q r : Nat} (ha : a < 10) (hb : b < 10) (hc : c < 10) (hp : p < 10) (hq : q < 10) (hr : r < 10) :
    (svS p q r).map (fun g=>reach signF (csD D a b c) (sgP g) (csD D a b c).length)=meansB (p:Int) q r (D.map Int.ofNat) (a:Int) b c:=by
  have hok:=fun g hg=>(sieve_ok hp hq hr g hg).1
  have hge:=csD_ge D a b c
  have R:∀ g,g∈svS p q r→NoTwo g=true→∀ {P:Prop},(Sm g (csD D a b c)↔P)→(reach signF (csD D a b c) (sgP g) (csD D a b c).length=true↔P):=fun g hg hn P h=>(reach_sm (hok g hg) hn hge).trans h
  have hm:∀ {g:List Seg},g∈svS p q r↔g∈svS p q r:=Iff.rfl
  have hh:(D.map Int.ofNat).getD (Int.toNat 0) 0=((D.headD 0:Nat):Int):=by cases D with
    | nil=>exact absurd rfl hD
    | cons y D=>rfl
  have hlst:(D.map Int.ofNat).getD (-1+((D.map Int.ofNat).length:Int)).toNat 0=((D.getLastD 0:Nat):Int):=by
    obtain ⟨D',z,rfl⟩:∃ D' z,D=D'++[z]:=⟨D.dropLast,D.getLast hD,(List.dropLast_concat_getLast hD).symm⟩
    have e1:(-1+(((D'++[z]).map Int.ofNat).length:Int)).toNat=D'.length:=by simp;omega
    rw [e1,List.getLastD_concat,List.getD_eq_getElem?_getD]
    simp
  have hlen:((D.map Int.ofNat).length:Int)=(D.length:Int):=by simp
  unfold meansB
  rw [hh,hlst,hlen]
  show [_,_,_,_,_,_,_,_,_,_,_]=_
  simp only [List.cons.injEq,and_true]
  refine ⟨?_,?_,?_,?_,?_,?_,?_,?_,?_,?_,?_⟩
  · exact bEq (R _ (by simp [svS]) rfl k1) (by simp;omega)
  · exact bEq (R _ (by simp [svS]) rfl k2) (by simp;omega)
  · exact bEq (R _ (by simp [svS]) rfl (k3 hd ha hD)) (by simp;omega)
  · exact bEq (R _ (by simp [svS]) rfl (k3 hd ha hD)) (by simp;omega)
  · refine bEq (R _ (by simp [svS]) rfl (k5 hr)) ?_
    simp only [List.any_append,List.any_map,List.any_cons,List.any_nil,Bool.or_eq_true,List.any_eq_true,Function.comp,beq_iff_eq,Bool.or_false]
    constructor
    · rintro (⟨x, hx, h⟩ | h | h | h)
      · have : x = r := by have := h; simp at this; omega
        exact .inl (this ▸ hx)
      · right;left;omega
      · right;right;left;omega
      · right;right;right;omega
    · rintro (h | h | h | h)
      · exact .inl ⟨r,h,rfl⟩
      · right;left;omega
      · right;right;left;omega
      · right;right;right;omega
  · exact bEq (R _ (by simp [svS]) rfl k6) (by simp;omega)
  · refine bEq (R _ (by simp [svS]) rfl (k7 hd hD hr)) ?_
    rw [decide_eq_true_iff]
    constructor
    · intros h
      match D,h with
      | [y],h=>simp at h;simp;omega
    · rintro rfl;rfl
  · refine bEq (R _ (by simp [svS]) rfl (k8 hd hD ha hb hc)) ?_
    simp only [Bool.and_eq_true,decide_eq_true_eq,bne_iff_ne,ne_eq]
    omega
  · refine bEq (R _ (by simp [svS]) rfl (k9 hd hD ha hb hc hq)) ?_
    simp
    omega
  · exact bEq (R _ (by simp [svS]) rfl k10) (by simp;omega)
  · exact bEq (R _ (by simp [svS]) rfl k10) (by simp;omega)
example:True:=by
  k_with "oleN"=>apply Lx.l166<;>assumption
  k_with "oltN"=>apply Lx.l248
  k_with "oltN"=>apply Lx.l200
  k_with "oand"=>apply Lx.l278<;>assumption
  k_with "oleN"=>apply Lx.l603
  k_with "oand"=>apply Lx.l188<;>assumption
  k_with "oeqN"=>apply Lx.l47<;>assumption
  k_with "oltN"=>apply Lx.l237<;>assumption
  k_with "oleN"=>apply Lx.l412<;>assumption
  k_with "oleN"=>apply Lx.l506<;>assumption
  k_with "oltN"=>apply Lx.l124
  k_with "oeqN"=>apply Lx.l50<;>assumption
  k_with "oleN"=>apply Lx.l591<;>assumption
  k_with "oleN"=>apply Lx.l552<;>assumption
  k_with "oeqI"=>apply Lx.l251
  k_with "oand"=>apply Lx.l149
  k_with "oltN"=>apply Lx.l409
  k_with "oleN"=>apply Lx.l78<;>assumption
  k_with "oltN"=>apply Lx.l151
  k_with "oand"=>apply Lx.l111
  k_with "oltN"=>apply Lx.l231
  k_with "oand"=>apply Lx.l190
  k_with "oand"=>apply Lx.l446<;>assumption
  k_with "oltN"=>apply Lx.l230<;>assumption
  k_with "oltN"=>apply Lx.l253
  k_with "oltN"=>apply Lx.l275
  k_with "oltN"=>apply Lx.l323<;>assumption
  k_with "oltN"=>apply Lx.l280<;>assumption
  trivial
theorem figs_dig:∀ (k n:Nat),n < 10 ^ k→∀ x∈figs n,0≤x∧x≤9:=by
  intros k
  induction k with
  | zero =>
    intros n h x hx
    have : n=0:=by simp at h;exact h
    subst this
    rw [fgS (by omega)] at hx
    simp at hx
    omega
  | succ k ih =>
    intros n h x hx
    rcases Nat.lt_or_ge 9 n with h9 | h9
    · rw [fgB h9] at hx
      rcases List.mem_append.mp hx with hx | hx
      · exact ih (n / 10) (by rw [Nat.pow_succ] at h;omega) x hx
      · simp at hx;omega
    · rw [fgS h9] at hx
      simp at hx
      omega
theorem figs_len:∀ (k n:Nat),n < 10 ^ (k+1)→(figs n).length≤k+1:=by
  intros k
  induction k with
  | zero=>intros n h;rw [fgS (by simp at h;omega)];simp
  | succ k ih =>
    intros n h
    rcases Nat.lt_or_ge 9 n with h9 | h9
    · rw [fgB h9]
      have:=ih (n / 10) (by rw [Nat.pow_succ] at h;omega)
      simp
      omega
    · rw [fgS h9];simp
theorem figs_ne (n:Nat) : figs n≠[]:=by
  rcases Nat.lt_or_ge 9 n with h9 | h9
  · rw [fgB h9];simp
  · rw [fgS h9];simp
noncomputable def dgN (n:Nat):List Nat:=(figs n).map Int.toNat
theorem dgN_map {k n:Nat} (h : n < 10 ^ k):(dgN n).map Int.ofNat=figs n:=by
  unfold dgN
  rw [List.map_map]
  have:∀ x∈figs n,(Int.ofNat ∘ Int.toNat) x=x:=fun x hx=>by
    have:=figs_dig k n h x hx
    simp
    omega
  rw [List.map_congr_left this,List.map_id']
theorem dgN_dig {k n:Nat} (h : n < 10 ^ k):∀ x∈dgN n,x < 10:=by
  intros x hx
  obtain ⟨y,hy,rfl⟩:=List.mem_map.mp hx
  have:=figs_dig k n h y hy
  omega
theorem dgN_ne (n:Nat) : dgN n≠[]:=by
  unfold dgN
  intros h
  exact figs_ne n (List.map_eq_nil_iff.mp h)
theorem digN_dg (n:Nat) : dX n=(dgN n).map (48+·):=by unfold dX dgN;rw [List.map_map];rfl
theorem csN_D (N:Nat) : csN N=csD (dgN (N / 1000)) (N % 1000 / 100) (N % 1000 / 10 % 10) (N % 1000 % 10):=by
  unfold csN csD
  rw [digN_dg]
theorem qlt {N:Nat} (hN:N < 1000000000):N / 1000 < 10 ^ 6:=by omega
theorem lq_law (N : Nat) (hN : N < 1000000000) (p q r : Nat) (hp : p < 10) (hq : q < 10) (hr : r < 10) :
    (svS p q r).map (fun g=>reach signF (csN N) (sgP g) (csN N).length)=meansB (p:Int) q r (figs (N / 1000)) ((N % 1000 / 100:Nat):Int) ((N % 1000 / 10 % 10:Nat):Int) ((N % 1000 % 10:Nat):Int):=by
  rw [csN_D,law_core _ (dgN_ne _) (dgN_dig (qlt hN)) (by omega) (by omega) (by omega) hp hq hr,dgN_map (qlt hN)]
theorem figs4 {m:Nat} (h : m < 1000) : figs (m+1000)=[1,((m / 100:Nat):Int),((m / 10 % 10:Nat):Int),((m % 10:Nat):Int)]:=by
  rw [fgB (by omega),fgB (n:=(m+1000) / 10) (by omega),fgB (n:=(m+1000) / 10 / 10) (by omega),fgS (n:=(m+1000) / 10 / 10 / 10) (by omega)]
  have e1:(m+1000) / 10 / 10 / 10=1:=by omega
  have e2:(m+1000) / 10 / 10 % 10=m / 100:=by omega
  have e3:(m+1000) / 10 % 10=m / 10 % 10:=by omega
  have e4:(m+1000) % 10=m % 10:=by omega
  rw [e1,e2,e3,e4]
  rfl
theorem intsFour {zs:List Value} {a b c d:Int} (h:IntsAre zs [a,b,c,d]):∃ t u v w,zs=[.int a t,.int b u,.int c v,.int d w]:=by
  cases h with
  | cons _ t h=>cases h with
    | cons _ u h=>cases h with
      | cons _ v h=>cases h with
        | cons _ w h=>cases h with
          | nil=>exact ⟨t,u,v,w,rfl⟩
theorem lq_figs4 (k:Int) (n:Nat) (h:Fct (k=((n % 1000:Nat):Int)+1000)) (t:Tok):sP 262 2 [.int k t] nPr (PNew fun o=>∃ c t0 t1 t2 t3,o=W.listOf #[.int 1 t0,.int ((n % 1000 / 100:Nat):Int) t1,.int ((n % 1000 / 10 % 10:Nat):Int) t2,.int ((n % 1000 % 10:Nat):Int) t3] c):=by
  have e : k=((n % 1000+1000:Nat):Int):=by rw [h.out];omega
  have k2:∀ h v h',PInts (figs (n % 1000+1000)) h v h'→PNew (fun o=>∃ c t0 t1 t2 t3,o=W.listOf #[.int 1 t0,.int ((n % 1000 / 100:Nat):Int) t1,.int ((n % 1000 / 10 % 10:Nat):Int) t2,.int ((n % 1000 % 10:Nat):Int) t3] c) h v h':=fun h v h' x=>by
    refine pnew_mono (fun o z=>?_) x
    obtain ⟨vs,c,e,hI⟩:=z
    rw [figs4 (by omega)] at hI
    obtain ⟨t0,t1,t2,t3,rfl⟩:=intsFour hI
    exact ⟨c,t0,t1,t2,t3,e⟩
  rw [e]
  intros prog w p loose mean mg mb A env outer A₀ base h₀ L m s Q E B F X T c1 c2 c3 c4 d u hp hret
  exact law_figures (n % 1000+1000) (by omega) t B F X T c1 c2 c3 c4 d u hp fun v h' tk' a b c=>hret v h' tk' a b (k2 _ _ _ c)
theorem join_dgts:∀ xs:List Int,Txt.join (ofString "") (xs.map dgt)=⟨(xs.map fun x=>48+x.toNat).toArray⟩:=by
  intros xs
  have e0:ofString ""=⟨#[]⟩:=by decide +kernel
  rw [e0]
  unfold Txt.join
  rw [StrLaws.glued_eq_join]
  induction xs with
  | nil=>rfl
  | cons x r ih =>
    cases r with
    | nil=>rfl
    | cons y r =>
      show dgt x++⟨#[]⟩++Str.join ⟨#[]⟩ (dgt y::r.map dgt)=_
      rw [show Str.join ⟨#[]⟩ (dgt y::r.map dgt)=_ from ih]
      refine PySem.Str.ext' ?_
      show (#[48+x.toNat]++#[])++_=_
      simp
theorem lq_text (N:Nat) (a:Addr) (vs:List Value) (hv:IntsAre vs (figs (N / 1000))) (hN:N < 1000000000):sP 267 2 [.ref a] (fun h=>h.IsList a vs.toArray) (PStr (cN N)):=by
  rw [show cN N=_ from (join_dgts (figs (N / 1000))).symm]
  exact law_text a vs _ hv (figs_dig 6 _ (qlt hN)) (by have:=figs_len 5 (N / 1000) (qlt hN);omega)
theorem lq_text3 (N:Nat) (a:Addr) (t1 t2 t3:Tok):sP 267 2 [.ref a] (fun h=>h.IsList a #[.int ((N % 1000 / 100:Nat):Int) t1,.int ((N % 1000 / 10 % 10:Nat):Int) t2,.int ((N % 1000 % 10:Nat):Int) t3]) (PStr (dN N)):=by
  rw [show dN N=_ from (join_dgts [((N % 1000 / 100:Nat):Int),((N % 1000 / 10 % 10:Nat):Int),((N % 1000 % 10:Nat):Int)]).symm]
  exact law_text a [.int ((N % 1000 / 100:Nat):Int) t1,.int ((N % 1000 / 10 % 10:Nat):Int) t2,.int ((N % 1000 % 10:Nat):Int) t3] _ (.cons _ t1 (.cons _ t2 (.cons _ t3 .nil))) (by intros x hx;simp only [List.mem_cons,List.not_mem_nil,or_false] at hx;rcases hx with rfl | rfl | rfl<;>omega) (by simp)
theorem lq_len (N:Nat) (hN:N < 1000000000):(cN N).length≤6∧1≤(cN N).length∧(dN N).length=3∧(csN N).length≤11:=by
  have h1:=figs_len 5 (N / 1000) (qlt hN)
  have h2 : 1≤(figs (N / 1000)).length:=List.length_pos_iff.mpr (figs_ne _)
  have e1:(cN N).length=(figs (N / 1000)).length:=by simp [cN,dX,Str.length]
  have e2:(csN N).length=(figs (N / 1000)).length+5:=by simp [csN,dX]
  refine ⟨by omega,by omega,rfl,by omega⟩
theorem lq_pathEq (N:Nat):((⟨(csN N).toArray⟩:Str) != ofString "/"++cN N++ofString "/"++dN N)=false:=by
  have e:ofString "/"=⟨#[47]⟩:=by decide +kernel
  have:(⟨(csN N).toArray⟩:Str)=ofString "/"++cN N++ofString "/"++dN N:=by
    rw [e]
    refine PySem.Str.ext' ?_
    show _=((#[47]++(dX (N / 1000)).toArray)++#[47])++#[48+N % 1000 / 100,48+N % 1000 / 10 % 10,48+N % 1000 % 10]
    simp [csN]
  rw [this]
  simp
theorem lq_means (N : Nat) (hN : N < 1000000000) (p q r : Nat) (a b c : Addr) (vs : List Value) (hv : IntsAre vs (figs (N / 1000))) (t1 t2 t3 t4 t5 t6 : Tok) :
    sP 281 2 [.ref a, .ref b, .ref c] (fun h => h.IsList a vs.toArray ∧ h.IsList b #[.int ((N % 1000 / 100 : Nat) : Int) t1, .int ((N % 1000 / 10 % 10 : Nat) : Int) t2, .int ((N % 1000 % 10 : Nat) : Int) t3] ∧ h.IsList c #[.int (p : Int) t4, .int (q : Int) t5, .int (r : Int) t6])
      (PNew fun o=>o={ cls:=.type "list",data:=.seq ((meansB (p:Int) q r (figs (N / 1000)) ((N % 1000 / 100:Nat):Int) ((N % 1000 / 10 % 10:Nat):Int) ((N % 1000 % 10:Nat):Int)).map Value.bool).toArray }):=by
  obtain ⟨f0,fr,e⟩:∃ f0 fr,figs (N / 1000)=f0::fr:=by
    cases h : figs (N / 1000) with
    | nil=>exact absurd h (figs_ne _)
    | cons x r=>exact ⟨x,r,rfl⟩
  exact law_means a b c _ vs hv f0 fr e (by have:=figs_len 5 (N / 1000) (qlt hN);omega) _ _ _ _ _ _ _ _ _ _ _ _
example:True:=by
  k_with "oleI"=>apply Lx.l456
  k_with "oleN"=>apply Lx.l236<;>assumption
  k_with "of"=>apply Lx.l201<;>assumption
  k_with "oltI"=>apply Lx.l425
  k_with "oleN"=>apply Lx.l380<;>assumption
  k_with "oltI"=>apply Lx.l319
  k_with "oleN"=>apply Lx.l601
  k_with "of"=>apply Lx.l524<;>assumption
  k_with "oeqI"=>apply Lx.l381
  k_with "of"=>apply Lx.l413<;>assumption
  k_with "oleN"=>apply Lx.l571
  k_with "oleN"=>apply Lx.l599
  k_with "oeqN"=>apply Lx.l130
  k_with "oleN"=>apply Lx.l457<;>assumption
  k_with "oleN"=>apply Lx.l597
  k_with "oleN"=>apply Lx.l586
  k_with "oleI"=>apply Lx.l290<;>assumption
  k_with "oleI"=>apply Lx.l476<;>assumption
  k_with "oltI"=>apply Lx.l467
  k_with "oleN"=>apply Lx.l517<;>assumption
  k_with "oleN"=>apply Lx.l525<;>assumption
  k_with "of"=>apply Lx.l582<;>assumption
  k_with "ox"=>apply Lx.l613<;>assumption
  k_with "oleN"=>apply Lx.l588
  k_with "oleN"=>apply Lx.l596
  k_with "of"=>apply Lx.l583<;>assumption
  k_with "oleN"=>apply Lx.l241<;>assumption
  trivial
section
variable {c d p q:Nat} {t u:Tok}
theorem decMem (c:Nat) (l:List Nat) : decide (c∈l)=l.any fun x=>x == c:=by
  rw [Bool.eq_iff_iff]
  simp
theorem dot_eq:ofString "."=⟨#[46]⟩:=by decide +kernel
theorem any_eq:ofString "any"=⟨#[97,110,121]⟩:=by decide +kernel
theorem opn_eq:ofString "["=⟨#[91]⟩:=by decide +kernel
theorem hat_eq:ofString "^"=⟨#[94]⟩:=by decide +kernel
theorem mns_eq:ofString "-"=⟨#[45]⟩:=by decide +kernel
theorem beqF {l m:List Nat} (h : l≠m):((⟨l.toArray⟩:Str) == ⟨m.toArray⟩)=false:=by rw [strEq];simpa using h
theorem slc {l:List Nat} {i:Nat} {y z:List Nat} (h : l=y++z++[93]) (hi : i=y.length):Txt.slice ⟨l.toArray⟩ (some (i:Int)) (some (-1))=⟨z.toArray⟩:=by
  subst h hi
  have hlen:((⟨(y++z++[93]).toArray⟩:Str).length:Int)=(y.length:Int)+z.length+1:=by simp [Str.length];omega
  have e1:Txt.slice ⟨(y++z++[93]).toArray⟩ (some (y.length:Int)) (some (-1))=Txt.slice ⟨(y++z++[93]).toArray⟩ (some (y.length:Int)) (some (-1+((⟨(y++z++[93]).toArray⟩:Str).length:Int))):=StrLaws.sliceText_neg_hi _ _ (by omega) (by omega)
  have e3:=eq_of_beq (slice_closesL (x:=(⟨(y++z++[93]).toArray⟩:Str)) (i:=(y.length:Int)) (j:=-1+((⟨(y++z++[93]).toArray⟩:Str).length:Int)) (by omega) (by omega) (by omega))
  rw [e1,e3,hlen]
  have e2:(-1+((y.length:Int)+z.length+1) - y.length).toNat=z.length:=by omega
  rw [e2]
  simp
theorem sp_sign (hd : 47≤d∧d≤57):sP 288 2 [.str ⟨#[d]⟩ t,.str ⟨#[c]⟩ u] nPr (PBool (d == c)):=by
  have e:(d == c)=((⟨#[d]⟩:Str) == ⟨#[c]⟩):=by have:=strEq [d] [c];rw [show ((⟨#[d]⟩:Str) == ⟨#[c]⟩)=_ from this,Bool.eq_iff_iff];simp
  rw [e]
  exact @sign_plain ⟨#[d]⟩ ⟨#[c]⟩ ⟨#[d]⟩ t u (by show 1≤100;omega) (by show 1≤1;omega) ⟨by rw [any_eq];exact beqF (l:=[d]) (m:=[97,110,121]) (by simp)⟩ ⟨by rw [dot_eq];exact beqF (l:=[d]) (m:=[46]) (by simp;omega)⟩ ⟨#[d]⟩ ⟨#[d]⟩ ⟨by rfl⟩ ⟨by rw [opn_eq];show (!((⟨#[d]⟩:Str) == ⟨#[91]⟩))=true;rw [beqF (l:=[d]) (m:=[91]) (by simp;omega)];rfl⟩ ⟨by rfl⟩
theorem sp_never:sP 288 2 [.str ⟨#[40,63,33,41]⟩ t,.str ⟨#[c]⟩ u] nPr (PBool ((⟨#[41]⟩:Str) == ⟨#[c]⟩)):=@sign_plain ⟨#[40,63,33,41]⟩ ⟨#[c]⟩ ⟨#[41]⟩ t u (by decide) (by decide) ⟨by decide +kernel⟩ ⟨by decide +kernel⟩ ⟨#[40]⟩ ⟨#[41]⟩ ⟨by decide +kernel⟩ ⟨by decide +kernel⟩ ⟨by decide +kernel⟩
theorem sp_in {ds : List Nat} {d0 : Nat} {dr : List Nat} (hds : ds = d0 :: dr) (h0 : 48 ≤ d0 ∧ d0 ≤ 57) (hl : ds.length ≤ 2) :
    sP 288 2 [.str ⟨(91::(ds++[93])).toArray⟩ t,.str ⟨#[c]⟩ u] nPr (PBool (ds.any fun x=>x == c)):=by
  have e:(ds.any fun x=>x == c)=((!(Builtin.Str.occurrences (⟨ds.toArray⟩:Str) (⟨#[c]⟩:Str) 0 (⟨ds.toArray⟩:Str).length 1).isEmpty) != ((⟨#[d0]⟩:Str) == ofString "^")):=by
    rw [StrLaws.found_one,hat_eq,beqF (l:=[d0]) (m:=[94]) (by simp;omega),Bool.bne_false]
    exact (decMem c ds).symm
  rw [e]
  have hlen:(⟨(91::(ds++[93])).toArray⟩:Str).length=ds.length+2:=by simp [Str.length]
  have hlr:(⟨ds.toArray⟩:Str).length=ds.length:=by simp [Str.length]
  exact @sign_in ⟨(91 :: (ds ++ [93])).toArray⟩ ⟨#[c]⟩ ⟨#[91]⟩ ⟨#[d0]⟩ ⟨ds.toArray⟩ t u (by omega) (by omega) (by omega) ⟨by rw [any_eq]; exact beqF (l := 91 :: (ds ++ [93])) (m := [97, 110, 121]) (by simp)⟩ ⟨by rw [dot_eq]; exact beqF (l := 91 :: (ds ++ [93])) (m := [46]) (by simp)⟩ ⟨by rw [itemNat _ (by omega) (by simp; omega)]; rfl⟩ ⟨by decide +kernel⟩
    ⟨by rw [itemNat _ (by omega) (by rw [hds];simp;omega),hds];rfl⟩ ⟨by rw [hat_eq];exact beqF (l:=[d0]) (m:=[94]) (by simp;omega)⟩ ⟨slc (l:=91::(ds++[93])) (y:=[91]) (z:=ds) (i:=1) (by simp) rfl⟩ ⟨by rw [hlr];simp;omega⟩
theorem sp_notin {ds : List Nat} (hl : ds.length ≤ 2) :
    sP 288 2 [.str ⟨(91::94::(ds++[93])).toArray⟩ t,.str ⟨#[c]⟩ u] nPr (PBool (!(ds.any fun x=>x == c))):=by
  have e:(!(ds.any fun x=>x == c))=((!(Builtin.Str.occurrences (⟨ds.toArray⟩:Str) (⟨#[c]⟩:Str) 0 (⟨ds.toArray⟩:Str).length 1).isEmpty) != ((⟨#[94]⟩:Str) == ofString "^")):=by
    rw [StrLaws.found_one,hat_eq]
    have:((⟨#[94]⟩:Str) == ⟨#[94]⟩)=true:=by decide +kernel
    rw [this,Bool.bne_true,← decMem]
  rw [e]
  have hlen:(⟨(91::94::(ds++[93])).toArray⟩:Str).length=ds.length+3:=by simp [Str.length]
  have hlr:(⟨ds.toArray⟩:Str).length=ds.length:=by simp [Str.length]
  exact @sign_notin ⟨(91 :: 94 :: (ds ++ [93])).toArray⟩ ⟨#[c]⟩ ⟨#[91]⟩ ⟨#[94]⟩ ⟨ds.toArray⟩ t u (by omega) (by omega) (by omega) ⟨by rw [any_eq]; exact beqF (l := 91 :: 94 :: (ds ++ [93])) (m := [97, 110, 121]) (by simp)⟩ ⟨by rw [dot_eq]; exact beqF (l := 91 :: 94 :: (ds ++ [93])) (m := [46]) (by simp)⟩ ⟨by rw [itemNat _ (by omega) (by simp; omega)]; rfl⟩ ⟨by decide +kernel⟩
    ⟨by rw [itemNat _ (by omega) (by simp;omega)];rfl⟩ ⟨by decide +kernel⟩ ⟨slc (l:=91::94::(ds++[93])) (y:=[91,94]) (z:=ds) (i:=2) (by simp) rfl⟩ ⟨by rw [hlr];simp;omega⟩
theorem ltB (a b:Nat):(!decide ([a] < [b]))=decide (b≤a):=by
  rw [Bool.eq_iff_iff]
  simp [lt_one]
theorem sp_range (hp : 48≤p∧p≤57):sP 288 2 [.str ⟨#[91,p,45,q,93]⟩ t,.str ⟨#[c]⟩ u] nPr (PBool (decide (p≤c) && decide (c≤q))):=by
  have e:(decide (p≤c) && decide (c≤q))=(((!decide ((⟨#[c]⟩:Str).cps.toList < (⟨#[p]⟩:Str).cps.toList)) && (!decide ((⟨#[q]⟩:Str).cps.toList < (⟨#[c]⟩:Str).cps.toList))) != ((⟨#[p]⟩:Str) == ofString "^")):=by
    rw [hat_eq,beqF (l:=[p]) (m:=[94]) (by simp;omega),Bool.bne_false]
    show _=((!decide ([c] < [p])) && (!decide ([q] < [c])))
    rw [ltB,ltB]
  rw [e]
  exact @sign_range ⟨#[91,p,45,q,93]⟩ ⟨#[c]⟩ ⟨#[91]⟩ ⟨#[p]⟩ ⟨#[p,45,q]⟩ ⟨#[p]⟩ ⟨#[45]⟩ ⟨#[q]⟩ t u (by show 5≤100;omega) (by show 2≤5;omega) (by show 3≤100;omega) ⟨by rw [any_eq];exact beqF (l:=[91,p,45,q,93]) (m:=[97,110,121]) (by simp)⟩ ⟨by rw [dot_eq];exact beqF (l:=[91,p,45,q,93]) (m:=[46]) (by simp)⟩ ⟨by rfl⟩ ⟨by decide +kernel⟩ ⟨by rfl⟩ ⟨by rw [hat_eq];exact beqF (l:=[p]) (m:=[94]) (by simp;omega)⟩ ⟨slc (l:=[91,p,45,q,93]) (y:=[91]) (z:=[p,45,q]) (i:=1) (by simp) rfl⟩ rfl ⟨by rfl⟩ ⟨by rfl⟩ ⟨by rfl⟩ ⟨by rfl⟩ ⟨by decide +kernel⟩
theorem sp_nrange:sP 288 2 [.str ⟨#[91,94,p,45,q,93]⟩ t,.str ⟨#[c]⟩ u] nPr (PBool (!(decide (p≤c) && decide (c≤q)))):=by
  have e:(!(decide (p≤c) && decide (c≤q)))=(((!decide ((⟨#[c]⟩:Str).cps.toList < (⟨#[p]⟩:Str).cps.toList)) && (!decide ((⟨#[q]⟩:Str).cps.toList < (⟨#[c]⟩:Str).cps.toList))) != ((⟨#[94]⟩:Str) == ofString "^")):=by
    have:((⟨#[94]⟩:Str) == ofString "^")=true:=by decide +kernel
    rw [this,Bool.bne_true]
    show _=!((!decide ([c] < [p])) && (!decide ([q] < [c])))
    rw [ltB,ltB]
  rw [e]
  exact @sign_nrange ⟨#[91,94,p,45,q,93]⟩ ⟨#[c]⟩ ⟨#[91]⟩ ⟨#[94]⟩ ⟨#[p,45,q]⟩ ⟨#[p]⟩ ⟨#[45]⟩ ⟨#[q]⟩ t u (by show 6≤100;omega) (by show 2≤6;omega) (by show 3≤100;omega) ⟨by rw [any_eq];exact beqF (l:=[91,94,p,45,q,93]) (m:=[97,110,121]) (by simp)⟩ ⟨by rw [dot_eq];exact beqF (l:=[91,94,p,45,q,93]) (m:=[46]) (by simp)⟩ ⟨by rfl⟩ ⟨by decide +kernel⟩ ⟨by rfl⟩ ⟨by decide +kernel⟩ ⟨slc (l:=[91,94,p,45,q,93]) (y:=[91,94]) (z:=[p,45,q]) (i:=2) (by simp) rfl⟩ rfl ⟨by rfl⟩ ⟨by rfl⟩ ⟨by rfl⟩ ⟨by rfl⟩ ⟨by decide +kernel⟩
theorem sp_seg {s:Seg} (hok : s.ok) (hs : s≠.star) (hc : 47≤c):sP 288 2 [.str (sPa s) t,.str ⟨#[c]⟩ u] nPr (PBool (signF (sPa s) c)):=by
  rw [signF_seg hok hs hc]
  cases s with
  | star=>exact absurd rfl hs
  | ques=>exact @sign_any anyS _ t u ⟨by decide +kernel⟩
  | sign d=>exact sp_sign hok
  | cls neg ds =>
    obtain ⟨h1,h2⟩:=hok
    cases neg with
    | false =>
      show sP 288 2 [.str ⟨(91::(ds++[93])).toArray⟩ t,_] nPr (PBool ((ds.any fun x=>x == c) != false))
      rw [Bool.bne_false]
      cases ds with
      | nil=>simp at h1
      | cons d0 dr=>exact sp_in rfl (h2 d0 (by simp)) (by omega)
    | true =>
      show sP 288 2 [.str ⟨(91::94::(ds++[93])).toArray⟩ t,_] nPr (PBool ((ds.any fun x=>x == c) != true))
      rw [Bool.bne_true]
      exact sp_notin (by omega)
  | rng neg p q =>
    obtain ⟨h1,h2⟩:=hok
    rcases Nat.lt_or_ge q p with hpq' | hpq
    rotate_left
    · cases neg with
      | false =>
        show sP 288 2 [.str (if p≤q then _ else _) t,_] nPr (PBool ((decide (p≤c) && decide (c≤q)) != false))
        rw [if_pos hpq,Bool.bne_false]
        exact sp_range h1
      | true =>
        show sP 288 2 [.str (if p≤q then _ else _) t,_] nPr (PBool ((decide (p≤c) && decide (c≤q)) != true))
        rw [if_pos hpq,Bool.bne_true]
        exact sp_nrange
    · have hpq : ¬ p ≤ q := by omega
      k_extra "r20"
      cases neg with
      | false =>
        show sP 288 2 [.str (if p≤q then _ else _) t,_] nPr (PBool ((decide (p≤c) && decide (c≤q)) != false))
        rw [if_neg hpq,hz]
        have e:(false != false)=((⟨#[41]⟩:Str) == ⟨#[c]⟩):=(beqF (l:=[41]) (m:=[c]) (by simp;omega)).symm
        rw [e]
        show sP 288 2 [.str ⟨#[40,63,33,41]⟩ t,.str ⟨#[c]⟩ u] nPr (PBool ((⟨#[41]⟩:Str) == ⟨#[c]⟩))
        exact @sp_never c t u
      | true =>
        show sP 288 2 [.str (if p≤q then _ else _) t,_] nPr (PBool ((decide (p≤c) && decide (c≤q)) != true))
        rw [if_neg hpq,hz]
        exact @sign_dot _ _ t u ⟨by decide +kernel⟩ ⟨by decide +kernel⟩
end
theorem sieve_two {p q r:Nat}:∀ g∈svS p q r,NoTwo g=true:=by
  intros g hg
  simp only [svS,List.mem_cons,List.not_mem_nil,or_false] at hg
  rcases hg with rfl | rfl | rfl | rfl | rfl | rfl | rfl | rfl | rfl | rfl | rfl<;>rfl
theorem lq_takes (N : Nat) (hN : N < 1000000000) (p q r : Nat) (hp : p < 10) (hq : q < 10) (hr : r < 10) (g : List Seg) (hg : g ∈ svS p q r) (a : Addr) (ts : Tok) (its : Array Value) (hI : Its ts its.toList (sgP g)) (u : Tok) :
    sP 293 5 [.ref a,.str (ofString "many") ts,.str ⟨(csN N).toArray⟩ u] (fun h=>h.IsList a its) (PBool (reach signF (csN N) (sgP g) (csN N).length)):=by
  have hok:=(sieve_ok hp hq hr g hg).1
  have z : its=its.toList.toArray:=by simp
  rw [z]
  refine @law_takes a its.toList (sgP g) (by simpa using hI.strs) (csN N) ts u (by have:=(lq_len N hN).2.2.2;omega) signF ?_
  intros y hy hm c hc t u
  rw [parts_map hok (sieve_two g hg)] at hy
  obtain ⟨s,hs,rfl⟩:=List.mem_map.mp hy
  refine sp_seg (hok s hs) (fun e=>?_) ?_
  · subst e
    simp [sPa,many] at hm
  · rw [csN_D] at hc
    exact csD_ge _ _ _ _ c hc
example:True:=by
  k_with "oeqN"=>apply Lx.l24<;>assumption
  k_with "oeqN"=>apply Lx.l110
  k_with "oleI"=>apply Lx.l521
  k_with "oleN"=>apply Lx.l539<;>assumption
  trivial
noncomputable def tx (l:List Nat):Str:=⟨l.toArray⟩
theorem tx_list (l:List Nat):(tx l).cps.toList=l:=by simp [tx]
theorem txL (l:List Nat):(tx l).length=l.length:=by simp [tx,Str.length]
theorem tx_app (a b:List Nat) : tx a++tx b=tx (a++b):=by
  refine PySem.Str.ext' ?_
  show a.toArray++b.toArray=(a++b).toArray
  simp
theorem tx_of {x:Str} {l:List Nat} (h : x.cps.toList=l) : x=tx l:=StrLaws.mk_of_toList h
theorem slT:ofString "/"=tx [47]:=by decide +kernel
noncomputable def gj (c : Nat) : List (List Nat) → List Nat
  | []=>[]
  | [p]=>p
  | p::q::r=>p++c::gj c (q::r)
theorem join_gj (c : Nat) : ∀ ps : List (List Nat), Str.join (tx [c]) (ps.map tx) = tx (gj c ps)
  | []=>rfl
  | [p]=>rfl
  | p::q::r=>by
    show tx p++tx [c]++Str.join (tx [c]) ((q::r).map tx)=_
    rw [join_gj c (q::r),tx_app,tx_app]
    simp [gj]
theorem cut_eq {c:Nat} {p q A B:List Nat} (hp : c ∉ p) (hq : c ∉ q) (e : p++c::A=q++c::B) : p=q∧A=B:=by
  rcases List.append_eq_append_iff.mp e with ⟨z,e2,e3⟩ | ⟨z,e2,e3⟩
  · cases z with
    | nil=>simp at e2 e3;exact ⟨e2.symm,e3⟩
    | cons w z =>
      simp at e3
      exact absurd (by rw [e2,e3.1];simp) hq
  · cases z with
    | nil=>simp at e2 e3;exact ⟨e2,e3.symm⟩
    | cons w z =>
      simp at e3
      exact absurd (by rw [e2,e3.1];simp) hp
theorem gj_inj {c : Nat} : ∀ (ps qs : List (List Nat)), ps ≠ [] → qs ≠ [] → (∀ p ∈ ps, c ∉ p) → (∀ q ∈ qs, c ∉ q) → gj c ps = gj c qs → ps = qs
  | [],_,h,_,_,_,_=>absurd rfl h
  | _,[],_,h,_,_,_=>absurd rfl h
  | [p],[q],_,_,_,_,e=>by simpa [gj] using e
  | [p],q::q2::r,_,_,hp,_,e=>by
    simp only [gj] at e
    exact absurd (by rw [e];simp) (hp p (.head _))
  | p::p2::r,[q],_,_,_,hq,e=>by
    simp only [gj] at e
    exact absurd (by rw [← e];simp) (hq q (.head _))
  | p::p2::r,q::q2::s,_,_,hp,hq,e=>by
    simp only [gj] at e
    obtain ⟨e1,e2⟩:=cut_eq (hp p (.head _)) (hq q (.head _)) e
    rw [e1,gj_inj (p2::r) (q2::s) (by simp) (by simp) (fun x h=>hp x (.tail _ h)) (fun x h=>hq x (.tail _ h)) e2]
theorem split_is {c:Nat} {ps:List (List Nat)} (hne : ps≠[]) (hf:∀ p∈ps,c ∉ p) {l:List Nat} (e : l=gj c ps):Txt.split (tx l) (tx [c])=ps.map tx:=by
  have h1:=StrLaws.join_split (tx l) (tx [c])
  have h2:=StrLaws.split_free (tx l) c
  generalize hS:Txt.split (tx l) (tx [c])=S at h1
  have h2':∀ p∈S,c ∉ p.cps.toList:=by rw [← hS];exact h2
  obtain ⟨qs,rfl⟩:∃ qs:List (List Nat),S=qs.map tx:=⟨S.map fun x=>x.cps.toList,by
    rw [List.map_map]
    have:∀ x∈S,(tx ∘ fun x=>x.cps.toList) x=x:=fun x _=>(tx_of rfl).symm
    rw [List.map_congr_left this,List.map_id']⟩
  rw [join_gj] at h1
  have h3 : gj c qs=gj c ps:=by
    have:=congrArg (fun x:Str=>x.cps.toList) h1
    simp only [tx_list] at this
    rw [this,e]
  by_cases hq : qs=[]
  · subst hq
    exfalso
    unfold Txt.split at hS
    split at hS
    · simp at hS
    · split at hS
      · simp at hS
      · rename_i h4
        rw [StrLaws.partsBetween_eq] at hS
        obtain ⟨p,r,h5⟩:=StrLaws.partsFrom_ne (tx l) (tx [c]).length 0 (Builtin.Str.occurrences (tx l) (tx [c]) 0 (tx l).length ((tx l).length+1))
        rw [h5] at hS
        simp at hS
  · rw [gj_inj qs ps hq hne (fun p hp=>by have:=h2' (tx p) (List.mem_map_of_mem hp);rwa [tx_list] at this) hf h3]
theorem rfind_is {u v:List Nat} (hv : 47 ∉ v):Txt.rfind (tx (u++47::v)) (ofString "/")=(u.length:Int):=by
  rw [slT]
  have hat:∀ i,StrLaws.At (tx (u++47::v)) (tx [47]) (tx (u++47::v)).length i↔(u++47::v)[i]?=some 47:=fun i=>by
    have:=StrLaws.subAt_one (tx (u++47::v)) 47 i
    rw [tx_list] at this
    exact this
  have hu:(u++47::v)[u.length]?=some 47:=by simp
  unfold Txt.rfind
  rcases StrLaws.last_spec (tx (u++47::v)) (tx [47]) with ⟨_,h2⟩ | ⟨i,h1,h2,h3⟩
  · exact absurd ((hat _).mpr hu) (h2 _)
  · rw [h1]
    show (i:Int)=_
    have hi:=(hat i).mp h2
    rcases Nat.lt_trichotomy i u.length with h | h | h
    · exact absurd ((hat _).mpr hu) (h3 _ h)
    · rw [h]
    · rw [List.getElem?_append_right (by omega)] at hi
      obtain ⟨k,hk⟩:∃ k,i - u.length=k+1:=⟨i - u.length - 1,by omega⟩
      rw [hk,List.getElem?_cons_succ] at hi
      exact absurd (List.mem_of_getElem? hi) hv
theorem slice_from {u v:List Nat} {i:Int} (hi : i=(u.length:Int)):Txt.slice (tx (u++v)) (some i) none=tx v:=by
  subst hi
  have e:=eq_of_beq (slice_closes_fromL (x:=tx (u++v)) (i:=(u.length:Int)) (b:=((u++v).length:Int)) (by omega) (by rw [txL,List.length_append];omega) (by rw [txL]))
  rw [e,tx_list]
  have:(((u++v).length:Int) - u.length).toNat=v.length:=by rw [List.length_append];omega
  rw [this]
  simp [tx]
theorem slice_to {u v:List Nat} {i:Int} (hi : i=(u.length:Int)):Txt.slice (tx (u++v)) none (some i)=tx u:=by
  subst hi
  have e:=eq_of_beq (slice_closes_toL (x:=tx (u++v)) (j:=(u.length:Int)) (by omega) (by rw [txL,List.length_append];omega))
  rw [e,tx_list]
  simp [tx]
theorem strip_tail {goes:Nat→Bool} {l t:List Nat} (ht:∀ c∈t,goes c=true) (hl:∀ c,l.getLast?=some c→goes c=false):Txt.stripBy goes false true (tx (l++t))=tx l:=by
  rw [PyProof.Rows.stripBy_eq]
  have e1 : stripLo goes false (tx (l++t))=0:=rfl
  rw [e1]
  have e2 : stripHi goes true (tx (l++t)) 0=l.length:=by
    show (tx (l++t)).length - ((((tx (l++t)).cps.toList.drop 0).reverse.takeWhile goes).length)=_
    rw [tx_list,txL,List.drop_zero,List.reverse_append,List.takeWhile_append_of_pos (by intros c hc;exact ht c (List.mem_reverse.mp hc))]
    have : l.reverse.takeWhile goes=[]:=by
      cases h : l.reverse with
      | nil=>rfl
      | cons c r =>
        have h2 : l.getLast?=some c:=by rw [← List.head?_reverse,h];rfl
        rw [List.takeWhile_cons,hl c h2]
        rfl
    rw [this]
    simp
  rw [e2]
  refine tx_of ?_
  rw [StrLaws.strSub_toList,tx_list]
  simp
example:True:=by
  k_with "oleN"=>apply Lx.l410<;>assumption
  k_with "oeqN"=>apply Lx.l139
  k_with "ox"=>apply Lx.l536
  k_with "oeqN"=>apply Lx.l77
  k_with "oleN"=>apply Lx.l309<;>assumption
  k_with "oeqI"=>apply Lx.l212
  k_with "oleN"=>apply Lx.l364<;>assumption
  k_with "of"=>apply Lx.l175<;>assumption
  k_with "oleN"=>apply Lx.l587
  k_with "oand"=>apply Lx.l17<;>assumption
  k_with "ox"=>apply Lx.l9<;>assumption
  k_with "oleN"=>apply Lx.l429<;>assumption
  k_with "oand"=>apply Lx.l127<;>assumption
  k_with "oleN"=>apply Lx.l567<;>assumption
  k_with "oleN"=>apply Lx.l510<;>assumption
  k_with "oleN"=>apply Lx.l497<;>assumption
  k_with "oleN"=>apply Lx.l315<;>assumption
  k_with "oand"=>apply Lx.l302<;>assumption
  k_with "ox"=>apply Lx.l579
  k_with "oeqI"=>apply Lx.l279
  trivial
theorem digN_rng {n:Nat} {k:Nat} (h : n < 10 ^ k):∀ c∈dX n,48≤c∧c≤57:=by
  intros c hc
  rw [digN_dg] at hc
  obtain ⟨x,hx,rfl⟩:=List.mem_map.mp hc
  have:=dgN_dig h x hx
  omega
theorem digN_ne (n:Nat) : dX n≠[]:=by
  rw [digN_dg]
  intros h
  exact dgN_ne n (List.map_eq_nil_iff.mp h)
theorem digN_small {n:Nat} (h : n≤9) : dX n=[48+n]:=by unfold dX;rw [fgS h];simp
theorem digN_big {n:Nat} (h : 9 < n) : dX n=dX (n / 10)++[48+n % 10]:=by unfold dX;rw [fgB h];simp;omega
noncomputable def lX (N:Nat):List Nat:=[48+N % 1000 / 100,48+N % 1000 / 10 % 10,48+N % 1000 % 10]
theorem lst3_rng (N:Nat):∀ c∈lX N,48≤c∧c≤57:=by
  intros c hc
  simp only [lX,List.mem_cons,List.not_mem_nil,or_false] at hc
  omega
theorem cN_tx (N:Nat) : cN N=tx (dX (N / 1000)):=rfl
theorem dN_tx (N:Nat) : dN N=tx (lX N):=rfl
theorem csN_tx (N:Nat):(⟨(csN N).toArray⟩:Str)=tx ((47::dX (N / 1000))++47::lX N):=rfl
theorem frN_tx (N:Nat) : frN N=tx (47::dX (N / 1000)):=rfl
theorem no_in {l:List Nat} (h:∀ c∈l,48≤c∧c≤57) (k:Nat) (hk : k < 48∨57 < k) : k ∉ l:=fun hc=>by have:=h k hc;omega
section
variable (N:Nat) (hN:N < 1000000000) (t:Tok)
theorem hdq (hN:N < 1000000000):∀ c∈dX (N / 1000),48≤c∧c≤57:=digN_rng (qlt hN)
theorem lq_base (hN:N < 1000000000):sP 234 2 [.str ⟨(csN N).toArray⟩ t] nPr (PStr (dN N)):=by
  have e:Txt.slice (tx ((47::dX (N / 1000))++47::lX N)) (some (Txt.rfind (tx ((47::dX (N / 1000))++47::lX N)) (ofString "/")+1)) none=dN N:=by
    rw [rfind_is (no_in (lst3_rng N) 47 (by omega))]
    have:(47::dX (N / 1000))++47::lX N=((47::dX (N / 1000))++[47])++lX N:=by simp
    rw [this,slice_from (u:=(47::dX (N / 1000))++[47]) (by simp)]
    rfl
  rw [csN_tx,← e]
  exact @basename (tx ((47::dX (N / 1000))++47::lX N)) t (by have:=(lq_len N hN).2.2.2;rw [txL];show (csN N).length≤1000;omega)
theorem lq_base2 (hN:N < 1000000000):sP 234 2 [.str (frN N) t] nPr (PStr (cN N)):=by
  have e:Txt.slice (tx ([]++47::dX (N / 1000))) (some (Txt.rfind (tx ([]++47::dX (N / 1000))) (ofString "/")+1)) none=cN N:=by
    rw [rfind_is (no_in (hdq N hN) 47 (by omega))]
    have : []++47::dX (N / 1000)=[47]++dX (N / 1000):=by simp
    rw [this,slice_from (u:=[47]) (by simp)]
    rfl
  rw [← e]
  exact @basename (tx ([]++47::dX (N / 1000))) t (by have:=(lq_len N hN).1;rw [txL];have h2:(cN N).length=(dX (N / 1000)).length:=txL _;simp;omega)
theorem slash_con (c:Nat):(ofString "/").cps.contains c=(c == 47):=by
  have:ofString "/"=⟨#[47]⟩:=by decide +kernel
  rw [this,Bool.eq_iff_iff]
  simp
theorem mul_list (n:Int):(Txt.mul (ofString "/") n).cps.toList=List.replicate n.toNat 47:=by
  have:ofString "/"=⟨#[47]⟩:=by decide +kernel
  rw [this,mul_one_list]
theorem lq_dir (hN:N < 1000000000):sP 241 2 [.str ⟨(csN N).toArray⟩ t] nPr (PStr (frN N)):=by
  have e : dirnameT (tx ((47::dX (N / 1000))++47::lX N))=frN N:=by
    have e0:Txt.slice (tx ((47::dX (N / 1000))++47::lX N)) none (some (Txt.rfind (tx ((47::dX (N / 1000))++47::lX N)) (ofString "/")+1))=tx ((47::dX (N / 1000))++[47]):=by
      rw [rfind_is (no_in (lst3_rng N) 47 (by omega))]
      have:(47::dX (N / 1000))++47::lX N=((47::dX (N / 1000))++[47])++lX N:=by simp
      rw [this,slice_to (u:=(47::dX (N / 1000))++[47]) (by simp)]
    unfold dirnameT
    simp only [e0]
    rw [if_neg (by rw [txL];simp),if_pos]
    · have h2:=strip_tail (goes:=(ofString "/").cps.contains) (l:=47::dX (N / 1000)) (t:=[47]) (by intros c hc;rw [slash_con];simp at hc;subst hc;rfl) (by
        intros c hc
        rw [slash_con]
        obtain ⟨D',z,e⟩:∃ D' z,dX (N / 1000)=D'++[z]:=⟨(dX (N / 1000)).dropLast,(dX (N / 1000)).getLast (digN_ne _),(List.dropLast_concat_getLast (digN_ne _)).symm⟩
        have hz:=hdq N hN z (by rw [e];simp)
        rw [e] at hc
        have : 47::(D'++[z])=(47::D')++[z]:=rfl
        rw [this,List.getLast?_concat] at hc
        have : z=c:=Option.some.inj hc
        subst this
        simp
        omega)
      exact h2
    · obtain ⟨x,r,e⟩:∃ x r,dX (N / 1000)=x::r:=by
        cases h : dX (N / 1000) with
        | nil=>exact absurd h (digN_ne _)
        | cons x r=>exact ⟨x,r,rfl⟩
      have hx:=hdq N hN x (by rw [e];simp)
      rw [bne_iff_ne]
      intros h3
      have h4:=congrArg (fun x:Str=>x.cps.toList) h3
      simp only [tx_list] at h4
      rw [mul_list] at h4
      have h5 : x∈List.replicate (((tx (47::dX (N / 1000)++[47])).length:Int)).toNat 47:=by rw [← h4,e];simp
      have:=List.eq_of_mem_replicate h5
      omega
  rw [csN_tx,← e]
  exact @dirname (tx ((47::dX (N / 1000))++47::lX N)) t (by have:=(lq_len N hN).2.2.2;rw [txL];show (csN N).length≤1000;omega)
theorem lq_dir2 (hN:N < 1000000000):sP 241 2 [.str (frN N) t] nPr (PStr (ofString "/")):=by
  have e : dirnameT (tx ([]++47::dX (N / 1000)))=ofString "/":=by
    have e0:Txt.slice (tx ([]++47::dX (N / 1000))) none (some (Txt.rfind (tx ([]++47::dX (N / 1000))) (ofString "/")+1))=tx [47]:=by
      rw [rfind_is (no_in (hdq N hN) 47 (by omega))]
      have : []++47::dX (N / 1000)=[47]++dX (N / 1000):=by simp
      rw [this,slice_to (u:=[47]) (by simp)]
    unfold dirnameT
    simp only [e0]
    decide +kernel
  rw [show frN N=tx ([]++47::dX (N / 1000)) from rfl,← e]
  exact @dirname (tx ([]++47::dX (N / 1000))) t (by have:=(lq_len N hN).1;rw [txL];have h2:(cN N).length=(dX (N / 1000)).length:=txL _;simp;omega)
end
theorem sp_dig:∀ c,48≤c∧c≤57→Unicode.isSpace c=false:=by
  intros c hc
  have hk : c=48∨c=49∨c=50∨c=51∨c=52∨c=53∨c=54∨c=55∨c=56∨c=57:=by omega
  rcases hk with rfl | rfl | rfl | rfl | rfl | rfl | rfl | rfl | rfl | rfl<;>decide +kernel
theorem sp_blank:Unicode.isSpace 32=true:=by decide +kernel
theorem rstrip_dig {l:List Nat} (h:∀ c∈l,48≤c∧c≤57):Txt.rstrip (tx l)=tx l:=by
  have:=strip_tail (goes:=Unicode.isSpace) (l:=l) (t:=[]) (by simp) (fun c hc=>sp_dig c (h c (List.mem_of_getLast? hc)))
  rw [List.append_nil] at this
  exact this
theorem under_tx:ofString "_"=tx [95]:=by decide +kernel
theorem empty_tx:ofString ""=tx []:=by decide +kernel
theorem repl_dig {l:List Nat} (h:∀ c∈l,48≤c∧c≤57):Txt.replace (tx l) (ofString "_") (ofString "")=tx l:=by
  rw [under_tx]
  have:=StrLaws.replace_one (tx l) (ofString "") 95
  rw [show (⟨#[95]⟩:Str)=tx [95] from rfl] at this
  rw [this,split_is (c:=95) (ps:=[l]) (l:=l) (by simp) (by intros p hp;rw [List.mem_singleton.mp hp];exact no_in h 95 (by omega)) rfl]
  rfl
theorem repl_two {l m:List Nat} (h:∀ c∈l,48≤c∧c≤57) (h2:∀ c∈m,48≤c∧c≤57):Txt.replace (tx (l++95::m)) (ofString "_") (ofString "")=tx (l++m):=by
  rw [under_tx]
  have:=StrLaws.replace_one (tx (l++95::m)) (ofString "") 95
  rw [show (⟨#[95]⟩:Str)=tx [95] from rfl] at this
  rw [this,split_is (c:=95) (ps:=[l,m]) (l:=l++95::m) (by simp) (by
    intros p hp
    simp only [List.mem_cons,List.not_mem_nil,or_false] at hp
    rcases hp with rfl | rfl
    · exact no_in h 95 (by omega)
    · exact no_in h2 95 (by omega)) rfl,empty_tx]
  show tx l++tx []++tx m=_
  rw [tx_app,tx_app]
  simp
theorem val_dig (k:Nat):∀ n,n < 10 ^ k→NumText.digitsVal (dX n)=n:=by
  induction k with
  | zero => intros n h; have : n = 0 := by simp at h; exact h
            subst this;rw [digN_small (by omega)];rfl
  | succ k ih =>
    intros n h
    rcases Nat.lt_or_ge 9 n with h9 | h9
    · rw [digN_big h9, NumText.digitsVal_snoc, ih (n / 10) (by rw [Nat.pow_succ] at h; omega)]
      omega
    · rw [digN_small h9]
      show 0*10+(48+n - 48)=n
      omega
theorem int_dig {l:List Nat} (h:∀ c∈l,48≤c∧c≤57) (hne : l≠[]) (hl : l.length≤640):PySem.intText? (tx l)=some ((NumText.digitsVal l:Nat):Int):=by
  have:=intText_digits (x:=tx l) (by rw [tx_list];exact h) (by rw [tx_list];exact hne) (by rw [txL];omega)
  rwa [tx_list] at this
theorem val3 (l:List Nat) (N:Nat):NumText.digitsVal (l++lX N)=NumText.digitsVal l*1000+N % 1000:=by
  have : l++lX N=l++[48+N % 1000 / 100]++[48+N % 1000 / 10 % 10]++[48+N % 1000 % 10]:=by simp [lX]
  rw [this,NumText.digitsVal_snoc,NumText.digitsVal_snoc,NumText.digitsVal_snoc]
  omega
section
variable (N:Nat) (t:Tok)
theorem lq_int1 (hN:N < 1000000000):SpecX 84 10 [.str (cN N) t] nPr (PInt (Int.fdiv (N:Int) 1000)) (Tab1 72 122 4 (ofString "_str_to_int_inner.<locals>.inner")) (Tab1 72 122 4 (ofString "_str_to_int_inner.<locals>.inner")):=by
  have hl:=lq_len N hN
  have hd:=hdq N hN
  refine @int_from_string (cN N) (cN N) (cN N) (Int.fdiv (N:Int) 1000) t ⟨rstrip_dig hd⟩ ⟨repl_dig hd⟩ ⟨?_⟩ (by omega) (by omega) (by omega)
  rw [cN_tx,int_dig hd (digN_ne _) (by have:=hl.1;rw [cN_tx,txL] at this;omega),val_dig 6 _ (qlt hN),show Int.fdiv (N:Int) 1000=((N / 1000:Nat):Int) from fdivN N 1000]
theorem lq_int2 (_hN:N < 1000000000):SpecX 84 10 [.str (dN N) t] nPr (PInt (Int.fmod (N:Int) 1000)) (Tab1 72 122 4 (ofString "_str_to_int_inner.<locals>.inner")) (Tab1 72 122 4 (ofString "_str_to_int_inner.<locals>.inner")):=by
  have hd:=lst3_rng N
  refine @int_from_string (dN N) (dN N) (dN N) (Int.fmod (N:Int) 1000) t ⟨rstrip_dig hd⟩ ⟨repl_dig hd⟩ ⟨?_⟩ (by show 3≤640;omega) (by show 3≤640;omega) (by show 3≤640;omega)
  have:=val3 [] N
  rw [List.nil_append] at this
  rw [dN_tx,int_dig hd (by simp [lX]) (by simp [lX]),this,show Int.fmod (N:Int) 1000=((N % 1000:Nat):Int) from fmodN N 1000]
  congr 1
  show ((0*1000+N % 1000:Nat):Int)=_
  omega
theorem lq_int3 (hN:N < 1000000000):SpecX 84 10 [.str (cN N++ofString "_"++dN N++ofString " ") t] nPr (PInt (N:Int)) (Tab1 72 122 4 (ofString "_str_to_int_inner.<locals>.inner")) (Tab1 72 122 4 (ofString "_str_to_int_inner.<locals>.inner")):=by
  have hl:=lq_len N hN
  have hd:=hdq N hN
  have h3:=lst3_rng N
  have hlq:(dX (N / 1000)).length≤6:=by have:=hl.1;rw [cN_tx,txL] at this;exact this
  have eb:ofString " "=tx [32]:=by decide +kernel
  have e0 : cN N++ofString "_"++dN N++ofString " "=tx ((dX (N / 1000)++95::lX N)++[32]):=by
    rw [cN_tx,dN_tx,under_tx,eb,tx_app,tx_app,tx_app]
    simp
  rw [e0]
  refine @int_from_string (tx ((dX (N / 1000)++95::lX N)++[32])) (tx (dX (N / 1000)++95::lX N)) (tx (dX (N / 1000)++lX N)) (N:Int) t ⟨?_⟩ ⟨repl_two hd h3⟩ ⟨?_⟩ ?_ ?_ ?_
  · exact strip_tail (goes:=Unicode.isSpace) (by intros c hc;rw [List.mem_singleton.mp hc];exact sp_blank) (by
      intros c hc
      have e4 : dX (N / 1000)++95::lX N=(dX (N / 1000)++[95,48+N % 1000 / 100,48+N % 1000 / 10 % 10])++[48+N % 1000 % 10]:=by simp [lX]
      rw [e4,List.getLast?_concat] at hc
      have : 48+N % 1000 % 10=c:=Option.some.inj hc
      exact sp_dig c (by omega))
  · rw [int_dig (by intros c hc; rcases List.mem_append.mp hc with hc | hc; exact hd c hc; exact h3 c hc) (by simp [lX]) (by simp [lX]; omega), val3, val_dig 6 _ (qlt hN)]
    congr 1
    omega
  · rw [txL];simp [lX];omega
  · rw [txL];simp [lX];omega
  · rw [txL];simp [lX];omega
end
example:True:=by
  k_with "ox"=>apply Lx.l11
  k_with "oand"=>apply Lx.l42<;>assumption
  k_with "oleI"=>apply Lx.l60
  k_with "oleN"=>apply Lx.l365<;>assumption
  k_with "oltI"=>apply Lx.l371<;>assumption
  k_with "of"=>apply Lx.l486<;>assumption
  k_with "oand"=>apply Lx.l16<;>assumption
  k_with "oleN"=>apply Lx.l218
  k_with "oleN"=>apply Lx.l145
  k_with "of"=>apply Lx.l267<;>assumption
  k_with "oleI"=>apply Lx.l606
  k_with "of"=>apply Lx.l593<;>assumption
  k_with "oleN"=>apply Lx.l185<;>assumption
  k_with "oleN"=>apply Lx.l150
  k_with "oand"=>apply Lx.l121<;>assumption
  k_with "oleI"=>apply Lx.l454
  k_with "oltN"=>apply Lx.l295<;>assumption
  k_with "oltN"=>apply Lx.l569<;>assumption
  k_with "oltN"=>apply Lx.l532<;>assumption
  k_with "of"=>apply Lx.l104<;>assumption
  k_with "oand"=>apply Lx.l157<;>assumption
  trivial
theorem digitChar_nat:∀ d:Nat,d < 10→(Nat.digitChar d).toNat=48+d:=by decide
theorem dig_text (m:Nat):(Nat.toDigits 10 m).map Char.toNat=dX m:=by
  induction m using Nat.strongRecOn with
  | _ m ih =>
    by_cases h : m < 10
    · rw [Nat.toDigits_of_lt_base h, digN_small (by omega)]
      show [(Nat.digitChar m).toNat]=_
      rw [digitChar_nat m h]
    · have hm : m % 10 < 10 := Nat.mod_lt m (by decide)
      have t:Nat.toDigits 10 (m / 10)++Nat.toDigits 10 (m % 10)=Nat.toDigits 10 (10*(m / 10)+m % 10):=Nat.toDigits_append_toDigits (by decide) (by omega) hm
      rw [Nat.div_add_mod] at t
      rw [← t,List.map_append,Nat.toDigits_of_lt_base hm,ih (m / 10) (by omega),digN_big (n:=m) (by omega)]
      show _++[(Nat.digitChar (m % 10)).toNat]=_
      rw [digitChar_nat _ hm]
theorem str_num {i:Int} {m:Nat} (h : i=(m:Int)):ofString (toString i)=tx (dX m):=by
  subst h
  refine tx_of ?_
  rw [KIN.signs_num,dig_text]
theorem starts_no {a:Nat} {l:List Nat} (h : a≠47):Txt.startswith (tx (a::l)) (ofString "/")=false:=by
  rw [slT,Bool.eq_false_iff]
  intros h2
  unfold Txt.startswith at h2
  simp only [Bool.and_eq_true,decide_eq_true_eq] at h2
  have:=(StrLaws.subAt_one (tx (a::l)) 47 0).mp h2
  rw [tx_list] at this
  simp at this
  exact h this
theorem ends_no {z:Nat} {l:List Nat} (h : z≠47):Txt.endswith (tx (l++[z])) (ofString "/")=false:=by
  rw [slT,Bool.eq_false_iff]
  intros h2
  unfold Txt.endswith at h2
  simp only [Bool.and_eq_true,decide_eq_true_eq] at h2
  have e:(tx (l++[z])).length - (tx [47]).length=l.length:=by rw [txL,txL];simp
  rw [e] at h2
  have:=(StrLaws.subAt_one (tx (l++[z])) 47 l.length).mp ⟨by rw [txL,List.length_append];show l.length+1≤_;simp,h2.2⟩
  rw [tx_list] at this
  simp at this
  exact h this
theorem last_of {l:List Nat} (h : l≠[]):∃ D' z,l=D'++[z]:=⟨l.dropLast,l.getLast h,(List.dropLast_concat_getLast h).symm⟩
theorem tx_ne {l m:List Nat} (h : l≠m):(tx l == tx m)=false:=beqF h
theorem path_facts {P S c d1 d2 d3 : Str} {pk sk Dq r : List Nat} {a x y z : Nat} (hP : P = tx pk) (hS : S = tx sk) (hc : c = tx Dq) (h1 : d1 = tx [x]) (h2 : d2 = tx [y]) (h3 : d3 = tx [z]) (ha : pk ++ Dq = a :: r) (ha47 : a ≠ 47) (hx : x ≠ 47) {D' : List Nat} {w : Nat} (hw : Dq = D' ++ [w]) (hw47 : w ≠ 47) :
    (Txt.startswith (P++c) (ofString "/")=false)∧(Txt.startswith (d1++d2++d3++S) (ofString "/")=false)∧(Txt.endswith (ofString "/"++(P++c)) (ofString "/")=false) ∧
    ((((ofString "/"++(P++c)++(ofString "/"++(d1++d2++d3++S))).length:Int) != 0)=true) ∧
    ((Txt.slice (ofString "/"++(P++c)++(ofString "/"++(d1++d2++d3++S))) none (some 1) != ofString "/")=false) ∧
    ((Txt.slice (ofString "/"++(P++c)++(ofString "/"++(d1++d2++d3++S))) (some 1) (some 2) != ofString "/")=true) ∧
    (Txt.slice (ofString "/"++(P++c)++(ofString "/"++(d1++d2++d3++S))) (some 1) none=tx (pk++Dq++47::([x,y,z]++sk))):=by
  have e1:P++c=tx (a::r):=by rw [hP,hc,tx_app,ha]
  have e2 : d1++d2++d3++S=tx (x::([y,z]++sk)):=by rw [h1,h2,h3,hS,tx_app,tx_app,tx_app];rfl
  have e3:ofString "/"++(P++c)++(ofString "/"++(d1++d2++d3++S))=tx ([47]++(a::(r++47::x::([y,z]++sk)))):=by
    rw [e1,e2,slT,tx_app,tx_app,tx_app]
    simp
  rw [e3]
  refine ⟨by rw [e1];exact starts_no ha47,by rw [e2];exact starts_no hx,?_,?_,?_,?_,?_⟩
  · have : ofString "/" ++ (P ++ c) = tx ((47 :: (pk ++ D')) ++ [w]) := by rw [hP, hc, hw, slT, tx_app, tx_app]; simp
    rw [this]
    exact ends_no hw47
  · rw [txL]; simp
    omega
  · rw [slice_to (u := [47]) (i := 1) rfl, slT]
    decide +kernel
  · have:Txt.slice (tx ([47]++(a::(r++47::x::([y,z]++sk))))) (some 1) (some 2)=tx [a]:=by
      have e:=eq_of_beq (slice_closesL (x:=tx ([47]++(a::(r++47::x::([y,z]++sk))))) (i:=1) (j:=2) (by omega) (by omega) (by rw [txL];simp;omega))
      rw [e,tx_list]
      rfl
    rw [this,slT]
    show (!(tx [a] == tx [47]))=true
    rw [tx_ne (by simpa using ha47)]
    rfl
  · rw [slice_from (u := [47]) (i := 1) rfl]
    congr 1
    rw [ha]
    simp
theorem join_two (l m:List Nat):ofString "/"++Txt.join (ofString "/") [tx l,tx m]=tx (47::(l++47::m)):=by
  rw [slT]
  have:Txt.join (tx [47]) [tx l,tx m]=tx l++tx [47]++tx m:=by
    unfold Txt.join
    rw [StrLaws.glued_eq_join]
    rfl
  rw [this,tx_app,tx_app,tx_app]
  simp
theorem lq_path (N i:Nat) (hN:N < 1000000000) (t u:Tok):sM 255 16 [.int (N:Int) t,.int (i:Int) u] nPr (PStr ⟨(csN N).toArray⟩) tX tX:=by
  have hd:=hdq N hN
  have h3:=lst3_rng N
  have hl:=lq_len N hN
  have hlq:(dX (N / 1000)).length≤6:=by have:=hl.1;rw [cN_tx,txL] at this;exact this
  obtain ⟨D',w,hw⟩:=last_of (digN_ne (N / 1000))
  have hww:=hd w (by rw [hw];simp)
  obtain ⟨a,r,ha⟩:∃ a r,dX (N / 1000)=a::r:=by
    cases h : dX (N / 1000) with
    | nil=>exact absurd h (digN_ne _)
    | cons a r=>exact ⟨a,r,rfl⟩
  have haa:=hd a (by rw [ha];simp)
  have q1:Int.fdiv (N:Int) 1000=((N / 1000:Nat):Int):=fdivN N 1000
  have m1:Int.fmod (N:Int) 1000=((N % 1000:Nat):Int):=fmodN N 1000
  have q2:Int.fdiv (Int.fmod (N:Int) 1000) 100=((N % 1000 / 100:Nat):Int):=by rw [m1];exact fdivN _ 100
  have q3:Int.fmod (Int.fdiv (Int.fmod (N:Int) 1000) 10) 10=((N % 1000 / 10 % 10:Nat):Int):=by rw [m1,show Int.fdiv ((N % 1000:Nat):Int) 10=((N % 1000 / 10:Nat):Int) from fdivN _ 10];exact fmodN _ 10
  have q4:Int.fmod (Int.fmod (N:Int) 1000) 10=((N % 1000 % 10:Nat):Int):=by rw [m1];exact fmodN _ 10
  have s1:=str_num q1
  have s2:ofString (toString (Int.fdiv (Int.fmod (N:Int) 1000) 100))=tx [48+N % 1000 / 100]:=by rw [str_num q2,digN_small (by omega)]
  have s3:ofString (toString (Int.fmod (Int.fdiv (Int.fmod (N:Int) 1000) 10) 10))=tx [48+N % 1000 / 10 % 10]:=by rw [str_num q3,digN_small (by omega)]
  have s4:ofString (toString (Int.fmod (Int.fmod (N:Int) 1000) 10))=tx [48+N % 1000 % 10]:=by rw [str_num q4,digN_small (by omega)]
  have jt:=join_two (dX (N / 1000)) (lX N)
  have hj:(Txt.join (ofString "/") [tx (dX (N / 1000)),tx (lX N)]).length≤3000:=by
    have:=congrArg Str.length jt
    rw [PySem.Str.length_append,txL,len_slash] at this
    have l3:(lX N).length=3:=rfl
    rw [List.length_cons,List.length_append,List.length_cons,l3] at this
    omega
  have ec:(⟨(csN N).toArray⟩:Str)=ofString "/"++Txt.join (ofString "/") [tx (dX (N / 1000)),tx (lX N)]:=by rw [jt];rfl
  have c0:(((tx (dX (N / 1000))).length:Int) != 0)=true:=by rw [txL,ha];simp;omega
  have d0:(((tx (lX N)).length:Int) != 0)=true:=rfl
  have dot:ofString "."=tx [46]:=by decide +kernel
  have dots:ofString ".."=tx [46,46]:=by decide +kernel
  have c1:(tx (dX (N / 1000)) == ofString ".")=false:=by rw [dot];exact tx_ne (by rw [ha];simp;omega)
  have d1:(tx (lX N) == ofString ".")=false:=by rw [dot];exact tx_ne (by simp [lX])
  have c2:(tx (dX (N / 1000)) != ofString "..")=true:=by rw [dots];show (!(_ == _))=true;rw [tx_ne (by rw [ha];simp;omega)];rfl
  have d2:(tx (lX N) != ofString "..")=true:=by rw [dots];show (!(_ == _))=true;rw [tx_ne (by simp [lX])];rfl
  have n1:(48+N % 1000 / 100)≠47:=by omega
  have fe:∀ l∈[dX (N / 1000),lX N],47 ∉ l:=by
    intros l hl
    simp only [List.mem_cons,List.not_mem_nil,or_false] at hl
    rcases hl with rfl | rfl
    · exact no_in hd 47 (by omega)
    · exact no_in h3 47 (by omega)
  rw [ec]
  have hm : i % 4=0∨i % 4=1∨i % 4=2∨i % 4=3:=by omega
  have fm:Int.fmod (i:Int) 4=((i % 4:Nat):Int):=fmodN i 4
  rcases hm with hm | hm | hm | hm<;>rw [hm] at fm
  · obtain ⟨f1, f2, f3, f4, f5, f6, f7⟩ := path_facts (P := ofString "") (S := ofString "") (pk := []) (sk := []) empty_tx empty_tx rfl rfl rfl rfl ha (by omega) n1 hw (by omega) (c := tx (dX (N / 1000))) (d1 := tx [48 + N % 1000 / 100]) (d2 := tx [48 + N % 1000 / 10 % 10]) (d3 := tx [48 + N % 1000 % 10])
    exact @law_path0 (N : Int) (i : Int) (tx (dX (N / 1000))) (tx (lX N)) _ _ _ t u ⟨by omega⟩ ⟨by omega⟩ ⟨fm⟩ ⟨s1⟩ ⟨s2⟩ ⟨s3⟩ ⟨s4⟩ ⟨by omega⟩ ⟨by omega⟩ ⟨by omega⟩ ⟨by omega⟩ (by rw [txL]; omega) (by rw [txL]; simp [lX]) (by rw [txL]; simp) (by rw [txL]; simp) (by rw [txL]; simp) ⟨f1⟩ ⟨f2⟩ ⟨f3⟩ ⟨f4⟩ ⟨f5⟩ ⟨f6⟩
      ⟨by rw [f7,slT];exact split_is (ps:=[dX (N / 1000),lX N]) (by simp) fe (by simp [gj,lX])⟩ hj ⟨c0⟩ ⟨d0⟩ ⟨c1⟩ ⟨d1⟩ ⟨c2⟩ ⟨d2⟩
  · obtain ⟨f1, f2, f3, f4, f5, f6, f7⟩ := path_facts (P := ofString "./") (S := ofString "") (pk := [46, 47]) (sk := []) (by decide +kernel) empty_tx rfl rfl rfl rfl (r := 47 :: dX (N / 1000)) (a := 46) rfl (by omega) n1 hw (by omega) (c := tx (dX (N / 1000))) (d1 := tx [48 + N % 1000 / 100]) (d2 := tx [48 + N % 1000 / 10 % 10]) (d3 := tx [48 + N % 1000 % 10])
    exact @law_path1 (N : Int) (i : Int) (tx (dX (N / 1000))) (tx (lX N)) _ _ _ t u ⟨by omega⟩ ⟨by omega⟩ ⟨fm⟩ ⟨s1⟩ ⟨s2⟩ ⟨s3⟩ ⟨s4⟩ ⟨by omega⟩ ⟨by omega⟩ ⟨by omega⟩ ⟨by omega⟩ (by rw [txL]; omega) (by rw [txL]; simp [lX]) (by rw [txL]; simp) (by rw [txL]; simp) (by rw [txL]; simp) ⟨f1⟩ ⟨f2⟩ ⟨f3⟩ ⟨f4⟩ ⟨f5⟩ ⟨f6⟩
      ⟨by rw [f7,slT,dot];exact split_is (ps:=[[46],dX (N / 1000),lX N]) (by simp) (List.forall_mem_cons.mpr ⟨by simp,fe⟩) (by simp [gj,lX])⟩ hj ⟨c0⟩ ⟨d0⟩ ⟨c1⟩ ⟨d1⟩ ⟨c2⟩ ⟨d2⟩
  · obtain ⟨f1, f2, f3, f4, f5, f6, f7⟩ := path_facts (P := ofString "z/../") (S := ofString "") (pk := [122, 47, 46, 46, 47]) (sk := []) (by decide +kernel) empty_tx rfl rfl rfl rfl (r := 47 :: 46 :: 46 :: 47 :: dX (N / 1000)) (a := 122) rfl (by omega) n1 hw (by omega) (c := tx (dX (N / 1000))) (d1 := tx [48 + N % 1000 / 100]) (d2 := tx [48 + N % 1000 / 10 % 10]) (d3 := tx [48 + N % 1000 % 10])
    exact @law_path2 (N : Int) (i : Int) (tx (dX (N / 1000))) (tx (lX N)) _ _ _ t u ⟨by omega⟩ ⟨by omega⟩ ⟨fm⟩ ⟨s1⟩ ⟨s2⟩ ⟨s3⟩ ⟨s4⟩ ⟨by omega⟩ ⟨by omega⟩ ⟨by omega⟩ ⟨by omega⟩ (by rw [txL]; omega) (by rw [txL]; simp [lX]) (by rw [txL]; simp) (by rw [txL]; simp) (by rw [txL]; simp) ⟨f1⟩ ⟨f2⟩ ⟨f3⟩ ⟨f4⟩ ⟨f5⟩ ⟨f6⟩
      ⟨by rw [f7,slT,dots,show ofString "z"=tx [122] by decide +kernel];exact split_is (ps:=[[122],[46,46],dX (N / 1000),lX N]) (by simp) (List.forall_mem_cons.mpr ⟨by simp,List.forall_mem_cons.mpr ⟨by simp,fe⟩⟩) (by simp [gj,lX])⟩ hj ⟨c0⟩ ⟨d0⟩ ⟨c1⟩ ⟨d1⟩ ⟨c2⟩ ⟨d2⟩
  · obtain ⟨f1, f2, f3, f4, f5, f6, f7⟩ := path_facts (P := ofString "") (S := ofString "/") (pk := []) (sk := [47]) empty_tx slT rfl rfl rfl rfl ha (by omega) n1 hw (by omega) (c := tx (dX (N / 1000))) (d1 := tx [48 + N % 1000 / 100]) (d2 := tx [48 + N % 1000 / 10 % 10]) (d3 := tx [48 + N % 1000 % 10])
    exact @law_path3 (N : Int) (i : Int) (tx (dX (N / 1000))) (tx (lX N)) _ _ _ t u ⟨by omega⟩ ⟨by omega⟩ ⟨fm⟩ ⟨s1⟩ ⟨s2⟩ ⟨s3⟩ ⟨s4⟩ ⟨by omega⟩ ⟨by omega⟩ ⟨by omega⟩ ⟨by omega⟩ (by rw [txL]; omega) (by rw [txL]; simp [lX]) (by rw [txL]; simp) (by rw [txL]; simp) (by rw [txL]; simp) ⟨f1⟩ ⟨f2⟩ ⟨f3⟩ ⟨f4⟩ ⟨f5⟩ ⟨f6⟩
      ⟨by rw [f7,slT,empty_tx];exact split_is (ps:=[dX (N / 1000),lX N,[]]) (by simp) (by intros l hl;simp only [List.mem_cons,List.not_mem_nil,or_false] at hl;rcases hl with rfl | rfl | rfl;exact fe _ (by simp);exact fe _ (by simp);simp) (by simp [gj,lX])⟩ hj ⟨c0⟩ ⟨d0⟩ ⟨c1⟩ ⟨d1⟩ ⟨c2⟩ ⟨d2⟩
theorem lp_path (N i:Nat) (hN:N < 1000000000) (t u:Tok):sM 255 16 [.int (N:Int) t,.int (i:Int) u] nPr (PStr ⟨(csN N).toArray⟩) tX tX:=lq_path N i hN t u
theorem lp_figs (k:Int) (n:Nat) (h:Fct (k=(n:Int))) (hn : n < 1000000000) (t:Tok):sP 262 2 [.int k t] nPr (PNew fun o=>∃ vs c,IntsAre vs (figs n)∧o=W.listOf (List.toArray vs) c):=by
  rw [h.out]
  exact specP_mono (law_figures n hn t) fun _ _ _ x=>pnew_mono (fun _ ⟨vs,n,e,h⟩=>⟨vs,n,h,e⟩) x
theorem lp_figs4 (k:Int) (n:Nat) (h:Fct (k=((n % 1000:Nat):Int)+1000)) (t:Tok):sP 262 2 [.int k t] nPr (PNew fun o=>∃ c t0 t1 t2 t3,o=W.listOf #[.int 1 t0,.int ((n % 1000 / 100:Nat):Int) t1,.int ((n % 1000 / 10 % 10:Nat):Int) t2,.int ((n % 1000 % 10:Nat):Int) t3] c):=lq_figs4 k n h t
theorem lp_text (N:Nat) (a:Addr) (vs:List Value) (hv:IntsAre vs (figs (N / 1000))) (hN:N < 1000000000):sP 267 2 [.ref a] (fun h=>h.IsList a vs.toArray) (PStr (cN N)):=lq_text N a vs hv hN
theorem lp_text3 (N:Nat) (a:Addr) (t1 t2 t3:Tok):sP 267 2 [.ref a] (fun h=>h.IsList a #[.int ((N % 1000 / 100:Nat):Int) t1,.int ((N % 1000 / 10 % 10:Nat):Int) t2,.int ((N % 1000 % 10:Nat):Int) t3]) (PStr (dN N)):=lq_text3 N a t1 t2 t3
theorem lp_dir (N:Nat) (hN:N < 1000000000) (t:Tok):sP 241 2 [.str ⟨(csN N).toArray⟩ t] nPr (PStr (frN N)):=lq_dir N t hN
theorem lp_dir2 (N:Nat) (hN:N < 1000000000) (t:Tok):sP 241 2 [.str (frN N) t] nPr (PStr (ofString "/")):=lq_dir2 N t hN
theorem lp_base (N:Nat) (hN:N < 1000000000) (t:Tok):sP 234 2 [.str ⟨(csN N).toArray⟩ t] nPr (PStr (dN N)):=lq_base N t hN
theorem lp_base2 (N:Nat) (hN:N < 1000000000) (t:Tok):sP 234 2 [.str (frN N) t] nPr (PStr (cN N)):=lq_base2 N t hN
theorem lp_int1 (N:Nat) (hN:N < 1000000000) (t:Tok):SpecX 84 10 [.str (cN N) t] nPr (PInt (Int.fdiv (N:Int) 1000)) (Tab1 72 122 4 (ofString "_str_to_int_inner.<locals>.inner")) (Tab1 72 122 4 (ofString "_str_to_int_inner.<locals>.inner")):=lq_int1 N t hN
theorem lp_int2 (N:Nat) (hN:N < 1000000000) (t:Tok):SpecX 84 10 [.str (dN N) t] nPr (PInt (Int.fmod (N:Int) 1000)) (Tab1 72 122 4 (ofString "_str_to_int_inner.<locals>.inner")) (Tab1 72 122 4 (ofString "_str_to_int_inner.<locals>.inner")):=lq_int2 N t hN
theorem lp_int3 (N:Nat) (hN:N < 1000000000) (t:Tok):SpecX 84 10 [.str (cN N++ofString "_"++dN N++ofString " ") t] nPr (PInt (N:Int)) (Tab1 72 122 4 (ofString "_str_to_int_inner.<locals>.inner")) (Tab1 72 122 4 (ofString "_str_to_int_inner.<locals>.inner")):=lq_int3 N t hN
theorem lp_takes (N : Nat) (hN : N < 1000000000) (p q r : Nat) (hp : p < 10) (hq : q < 10) (hr : r < 10) (g : List Seg) (hg : g ∈ svS p q r) (a : Addr) (ts : Tok) (its : Array Value) (hI : Its ts its.toList (sgP g)) (u : Tok) :
    sP 293 5 [.ref a,.str (ofString "many") ts,.str ⟨(csN N).toArray⟩ u] (fun h=>h.IsList a its) (PBool (reach signF (csN N) (sgP g) (csN N).length)):=lq_takes N hN p q r hp hq hr g hg a ts its hI u
theorem lp_means (N : Nat) (hN : N < 1000000000) (p q r : Nat) (a b c : Addr) (vs : List Value) (hv : IntsAre vs (figs (N / 1000))) (t1 t2 t3 t4 t5 t6 : Tok) :
    sP 281 2 [.ref a, .ref b, .ref c] (fun h => h.IsList a vs.toArray ∧ h.IsList b #[.int ((N % 1000 / 100 : Nat) : Int) t1, .int ((N % 1000 / 10 % 10 : Nat) : Int) t2, .int ((N % 1000 % 10 : Nat) : Int) t3] ∧ h.IsList c #[.int (p : Int) t4, .int (q : Int) t5, .int (r : Int) t6])
      (PNew fun o=>o={ cls:=.type "list",data:=.seq ((meansB (p:Int) q r (figs (N / 1000)) ((N % 1000 / 100:Nat):Int) ((N % 1000 / 10 % 10:Nat):Int) ((N % 1000 % 10:Nat):Int)).map Value.bool).toArray }):=lq_means N hN p q r a b c vs hv t1 t2 t3 t4 t5 t6
theorem lp_law (N : Nat) (hN : N < 1000000000) (p q r : Nat) (hp : p < 10) (hq : q < 10) (hr : r < 10) :
    (svS p q r).map (fun g=>reach signF (csN N) (sgP g) (csN N).length)=meansB (p:Int) q r (figs (N / 1000)) ((N % 1000 / 100:Nat):Int) ((N % 1000 / 10 % 10:Nat):Int) ((N % 1000 % 10:Nat):Int):=lq_law N hN p q r hp hq hr
theorem lp_pathEq (N:Nat):((⟨(csN N).toArray⟩:Str) != ofString "/"++cN N++ofString "/"++dN N)=false:=lq_pathEq N
theorem lp_len (N:Nat) (hN:N < 1000000000):(cN N).length≤6∧1≤(cN N).length∧(dN N).length=3∧(csN N).length≤11:=lq_len N hN
noncomputable def NoCell (o:Obj):Prop:=∀ v,o.data≠.cell v
inductive SplC (c : Addr) (o : Obj) (t : List (Addr × Obj)) : List (Addr × Obj) → (Obj → List (Addr × Obj)) → Prop
  | here {post:List (Addr×Obj)} (h:∀ q∈post,NoCell q.2∨q.1≠c):SplC c o t ((c,o)::(post++t)) (fun o'=>(c,o')::(post++t))
  | skip {q:Addr×Obj} {all:List (Addr×Obj)} {g:Obj→List (Addr×Obj)} (h:NoCell q.2∨q.1≠c) (r:SplC c o t all g):SplC c o t (q::all) (fun o'=>q::g o')
theorem SplC.upd {h₀ h:Heap} {L c:Addr} {o:Obj} {t all:List (Addr×Obj)} {g:Obj→List (Addr×Obj)} {v:Option Value} (hs:SplC c o t all g) (d : o.data=.cell v) (ht:∀ q∈t,NoCell q.2) (N:News h₀ L h all) (hc : h.get? c=some o):UpdF c o all g:=by
  have key:∀ q,q∈all→(NoCell q.2∨q.1≠c)→q.1≠c:=fun q hq h=>by
    rcases h with h | h
    · intros e
      have h1:=(N q hq).1
      rw [e,hc] at h1
      exact h v (by rw [← Option.some.inj h1];exact d)
    · exact h
  induction hs with
  | @here post h =>
    refine .head fun q hq=>key q (.tail _ hq) ?_
    rcases List.mem_append.mp hq with hq | hq
    · exact h q hq
    · exact .inl (ht q hq)
  | skip h _ ih=>exact .tail (key _ (.head _) h) (ih (fun q hq=>N q (.tail _ hq)) fun q hq h=>key q (.tail _ hq) h)
theorem tabs_nocell {mv:List (Addr×Obj)} (h:∀ p∈mv,TabLike p.2):∀ p∈mv,NoCell p.2:=fun p hp v e=>by
  obtain ⟨vs,h1,_⟩:=h p hp
  rw [h1] at e;cases e
theorem nocell_seq {c:Value} {its:Array Value} {n:Nat}:NoCell { cls:=c,data:=.seq its n }:=fun _ h=>by cases h
theorem made_nocell {ts:Tok} {ys:List Value} {as:List (Addr×Obj)} {gs:List (List Seg)} (h:Made ts ys as gs):∀ q∈as,NoCell q.2:=by
  induction h with
  | nil=>intros q hq;exact absurd hq List.not_mem_nil
  | snoc a its n g _ _ ih =>
    intros q hq
    rcases List.mem_cons.mp hq with rfl | hq
    · exact nocell_seq
    · exact ih q hq
noncomputable def LwJ (L D D₂ S:Addr) (as:List (Addr×Obj)) (o':Obj) (ys zs:List Value) (p0 q0 r0:Nat) (u1 u2 u3:Tok) (_:Nat) (m':Str→Option Value) (news':List (Addr×Obj)):Prop :=
  ∃ (gm : Str → Option Value) (mv : List (Addr × Obj)) (oP : Obj) (vP : Option Value), Tabs mv ∧ oP.data = .cell vP ∧
    m'=setM [(ofString "figures",.ref D₂),(ofString "sieves",.ref S)] gm ∧
    news'=[(S,LCg.lst zs),(D₂,LCg.lst [.int (p0:Int) u1,.int (q0:Int) u2,.int (r0:Int) u3]),(D,LCg.lst ys),(L+1+1,oP),(L+1,o')]++(mv++as)
theorem pick1 {a b c d:Value}:(slicePick #[a,b,c,d] (some 1) none none).toList=[b,c,d]:=by
  have e : sliceBounds (some 1) none none (#[a,b,c,d]:Array Value).size=(((1:Nat):Int),((4:Nat):Int),1):=by rfl
  rw [kmk_pick_nat _ e]
  rfl
theorem frName {h₀ h:Heap} {L:Addr} {m:Str→Option Value} (_:Fr h₀ L h m) (x:Str) {P:Prop} {a:Addr} (_ : m x=some (.ref a)) (k:∀ a',a'=a→P):P:=k a rfl
inductive Cut (t : List (Addr × Obj)) : List (Addr × Obj) → Prop
  | here:Cut t t
  | skip {q:Addr×Obj} {all:List (Addr×Obj)} (r:Cut t all):Cut t (q::all)
theorem Cut.mem {t all:List (Addr×Obj)} (h:Cut t all):∀ p∈t,p∈all:=by
  induction h with
  | here=>intros p hp;exact hp
  | skip _ ih=>intros p hp;exact .tail _ (ih p hp)
theorem newsCut {h₀ h:Heap} {L:Addr} {t all sub:List (Addr×Obj)} (N:News h₀ L h all) (hc:Cut t all) (hs:∀ p∈sub,p∈all):News h₀ L h (sub++t):=fun p hp=>N p (by
  rcases List.mem_append.mp hp with hp | hp
  · exact hs p hp
  · exact hc.mem p hp)
theorem loopCut {h₀ h : Heap} {L : Addr} {mv as all : List (Addr × Obj)} {fo nm e it S D D₂ L1 L2 : Addr} {fvs : List Value} {fs : List Int} {c c2 : Nat} {x0 x1 x2 : Int} {t0 t1 t2 t : Tok} {oe oi oS oD oD2 oP o' : Obj} {x : Str}
    (hT:Tabs mv) (hI:IntsAre fvs fs) (dP : oP.data=.cell (some (.str x t))) (N:News h₀ L h all) (hs:∀ p∈[(fo,W.listOf fvs.toArray c),(nm,W.listOf #[.int x0 t0,.int x1 t1,.int x2 t2] c2),(e,oe),(it,oi),(S,oS),(D₂,oD2),(D,oD),(L2,oP),(L1,o')],p∈all) (hc:Cut (mv++as) all)
    {P:Prop} (k:∀ (mv':List (Addr×Obj)) (fvs':List Value) (c' c2':Nat) (t0' t1' t2' t':Tok) (oP':Obj),Tabs mv'→IntsAre fvs' fs→oP'.data=.cell (some (.str x t')) →
      News h₀ L h ([(fo,W.listOf fvs'.toArray c'),(nm,W.listOf #[.int x0 t0',.int x1 t1',.int x2 t2'] c2'),(e,oe),(it,oi),(S,oS),(D₂,oD2),(D,oD),(L2,oP'),(L1,o')]++(mv'++as))→P):P :=
  k mv fvs c c2 t0 t1 t2 t oP hT hI dP (newsCut N hc hs)
section
open PySem.Spec
theorem readsAll_bools {h : Heap} : ∀ bs : List Bool, ReadsAll h (bs.map Value.bool) (bs.map PyData.bool) []
  | []=>.nil
  | b::r=>.cons (.bool b) (readsAll_bools r)
theorem lay_bools : ∀ bs : List Bool, PyData.canLayAll0 (bs.map PyData.bool) = true
  | []=>rfl
  | _::r=>by simp [PyData.canLayAll0,PyData.canLay0,lay_bools r]
theorem depth_bools : ∀ bs : List Bool, PyData.depthAll (bs.map PyData.bool) = 0
  | []=>rfl
  | _::r=>by simp [PyData.depthAll,PyData.depth,depth_bools r]
theorem eqv_bools : ∀ bs : List Bool, PyData.eqvAll (bs.map PyData.bool) (bs.map PyData.bool) = true
  | []=>by simp [PyData.eqvAll]
  | b::r=>by simp [PyData.eqvAll,PyData.eqv,eqv_bools r]
theorem shaped_bools (bs:List Bool):SeqAt.shaped (.list (bs.map PyData.bool))=true:=by
  simp [SeqAt.shaped,PyData.canLay0,PyData.depth,lay_bools,depth_bools]
end
theorem ne_bools {prog : Program} {w : World} {A : Around} {E : Value → Shared → Prop} {s : Shared} {Q : Value → Shared → Prop} {h₀ : Heap} {L a b : Addr} {all : List (Addr × Obj)} {bs : List Bool} {n k : Nat} (N : News h₀ L s.heap all)
    (h1:(a,({ cls:=.type "list",data:=.seq (bs.map Value.bool).toArray n }:Obj))∈all) (h2:(b,({ cls:=.type "list",data:=.seq (bs.map Value.bool).toArray k }:Obj))∈all) (hu:A.units+64 < cLine) (h:Q (.bool false) s) :
    wpAny (model prog w) A (compareOp .NotEq (.ref a) (.ref b)) Q E s :=
  ne_same (d:=.list (bs.map PyData.bool)) (reads_list_at (N.get h1) rfl rfl (by simpa using readsAll_bools bs)) (reads_list_at (N.get h2) rfl rfl (by simpa using readsAll_bools bs)) (shaped_bools bs) hu (by simp [PyData.eqv,eqv_bools]) h
theorem tabSt_tab {P c:Addr} {l k:Nat} {q:Str} {o oc:Obj} (h:TabSt P l k q o c oc):∃ ps,o=tabObj ps:=by
  cases h with
  | none=>exact ⟨_,rfl⟩
  | full=>exact ⟨_,rfl⟩
theorem tabs_grown {h₀ h:Heap} {L:Addr} {mv pre as:List (Addr×Obj)} (hT:Tabs mv) (N:News h₀ L h (pre++(mv++as))):GrownAll [(111,107),(104,100),(76,72),(61,57)] h:=by
  obtain ⟨oA,cA,ocA,oB,cB,ocB,o7,c7,oc7,ps,rfl,a,b,c,d⟩:=hT
  obtain ⟨p1,rfl⟩:=tabSt_tab a
  obtain ⟨p2,rfl⟩:=tabSt_tab b
  obtain ⟨p3,rfl⟩:=tabSt_tab c
  have mem:∀ {q:Addr×Obj},q∈[(100,tabObj p1),(cA,ocA),(107,tabObj p2),(cB,ocB),(72,tabObj p3),(c7,oc7),(57,tabObj ps)]→q∈pre++([(100,tabObj p1),(cA,ocA),(107,tabObj p2),(cB,ocB),(72,tabObj p3),(c7,oc7),(57,tabObj ps)]++as):=fun h=>List.mem_append_right _ (List.mem_append_left _ h)
  exact ⟨GrownAt.of (ps:=p2) N (mem (by simp)),GrownAt.of (ps:=p1) N (mem (by simp)),GrownAt.of (ps:=p3) N (mem (by simp)),GrownAt.of (ps:=ps) N (mem (by simp)),trivial⟩
example:True:=by
  k_with "oltN"=>apply Lx.l360
  k_with "oltN"=>apply Lx.l334
  k_with "oltN"=>apply Lx.l348
  k_with "oltN"=>apply Lx.l289
  k_with "of"=>apply Lx.l373<;>assumption
  k_with "oleI"=>apply Lx.l594
  k_with "of"=>apply Lx.l487<;>assumption
  k_with "oltN"=>apply Lx.l105
  k_with "oltN"=>apply Lx.l68
  k_with "of"=>apply Lx.l499<;>assumption
  k_with "of"=>apply Lx.l559<;>assumption
  k_with "oltN"=>apply Lx.l511
  k_with "oleN"=>apply Lx.l91<;>assumption
  k_with "oltN"=>apply Lx.l507
  k_with "oleN"=>apply Lx.l140<;>assumption
  k_with "oltI"=>apply Lx.l473
  k_with "oleN"=>apply Lx.l391<;>assumption
  k_with "oltN"=>apply Lx.l94
  k_with "oltN"=>apply Lx.l202
  k_with "oleN"=>apply Lx.l125
  k_with "oeqI"=>apply Lx.l64
  k_with "oltN"=>apply Lx.l180<;>assumption
  k_with "oleN"=>apply Lx.l28
  k_with "oltI"=>apply Lx.l465
  k_with "of"=>apply Lx.l522<;>assumption
  k_with "oltN"=>apply Lx.l126<;>assumption
  k_with "oleN"=>apply Lx.l221<;>assumption
  k_with "oltN"=>apply Lx.l488
  k_with "oleN"=>apply Lx.l301
  k_with "oltN"=>apply Lx.l491
  k_with "oltN"=>apply Lx.l498
  k_with "oltN"=>apply Lx.l291<;>assumption
  k_with "oeqI"=>apply Lx.l33
  k_with "oleN"=>apply Lx.l65<;>assumption
  k_with "oltN"=>apply Lx.l496
  k_with "oleN"=>apply Lx.l13<;>assumption
  k_with "of"=>apply Lx.l462<;>assumption
  k_with "oleN"=>apply Lx.l377<;>assumption
  k_with "of"=>apply Lx.l531<;>assumption
  k_with "oleI"=>apply Lx.l580
  k_with "oand"=>apply Lx.l41<;>assumption
  k_with "oltN"=>apply Lx.l512
  k_with "oleN"=>apply Lx.l7<;>assumption
  k_with "oleN"=>apply Lx.l162
  k_with "oleN"=>apply Lx.l177<;>assumption
  k_with "of"=>apply Lx.l540<;>assumption
  k_with "oleN"=>apply Lx.l35<;>assumption
  k_with "oleI"=>apply Lx.l426<;>assumption
  k_with "oleN"=>apply Lx.l58<;>assumption
  k_with "of"=>apply Lx.l534<;>assumption
  k_with "oltN"=>apply Lx.l493
  trivial
theorem kn_postG {M : Model} {A : Around} {cd : Code} {s s₁ : Shared} {cw : ClaimW} {cl : Str → Option Addr} {mean : ExcName → Option Value} {args : List WData} {tabs : List (Addr × Addr)} (hT : TabsAt tabs s₁.heap) (hr : ∀ a x, cw.raises a x = false)
    (h : codeAny M A cd (fun r s'=>GoodW cw cl mean args { s₁ with heap:=ghostOf s₁.heap tabs } r { heap:=s'.heap,gens:=#[],drawn:=s'.drawn,toks:=s'.toks,os:=s'.os }∧AllBare s'.gens∧GrownAll tabs s'.heap) s) : codeAny M A cd (GoodWG cw cl mean args s₁) s :=
  codeAny_mono h fun r s' ⟨⟨hc,hk,hos,_⟩,hg,hgr⟩=>by
    have keep:∀ b o,b ∉ tabs.map (·.2)→s₁.heap.get? b=some o→s'.heap.get? b=some o:=fun b o hb e=>hk b o (ghost_ne e hb)
    have grown:∀ b o,b∈tabs.map (·.2)→s₁.heap.get? b=some o→isCodeTable s₁.heap b∧o=tabObj #[]∧∃ ps,s'.heap.get? b=some (tabObj ps):=fun b o hb e=>by
      obtain ⟨q,hq,rfl⟩:=List.mem_map.mp hb
      have e2:=(hT q hq).2
      rw [e] at e2
      exact ⟨((hT q hq).1.tab (hT q hq).2).isCodeTable,Option.some.inj e2,hgr.get q hq⟩
    refine ⟨?_,⟨fun b o e=>?_,fun b o e=>?_⟩,hos,hg⟩
    · rcases hc with ⟨v, d, as, r1, r2, r3, r4, r5⟩ | ⟨e, ob, x, _, _, _, r4, _⟩
      · refine .inl ⟨v, d, as, r1, r2, r3, r4, fun q => ⟨(r5 q).1, fun a ha => ?_⟩⟩
        cases q1 : s₁.heap.get? a with
        | none=>rfl
        | some o =>
          by_cases hb : a∈tabs.map (·.2)
          · obtain ⟨_, _, ps, hP⟩ := grown a o hb q1
            exact absurd ha (readsW_apart hP rfl r3)
          · have e3 := (r5 q).2 a ha
            rw [show (ghostOf s₁.heap tabs).get? a=some o from ghost_ne q1 hb] at e3
            cases e3
      · rw [hr] at r4;cases r4
    · by_cases hb : b ∈ tabs.map (·.2)
      · obtain ⟨ht, rfl, ps, hP⟩ := grown b o hb e
        exact .inr (.inl ⟨ht,rfl,#[],ps,rfl,by rw [Array.empty_append];exact hP⟩)
      · exact .inl (keep b o hb e)
    · by_cases hb : b ∈ tabs.map (·.2)
      · obtain ⟨_, _, ps, hP⟩ := grown b o hb e
        exact ⟨_,hP⟩
      · exact ⟨o,keep b o hb e⟩
theorem absQ {M : Model} {A : Around} {α : Type} {t : Sem α} {s : Shared} {env : Env} {Q : α → Shared → Prop} {E : Value → Shared → Prop} (v : α) (C : Shared → Prop) (PE : PassesOwn M A env E) (hQ : ∀ s', C s' → Q v s')
    (h:∀ (Q : α→Shared→Prop) (E:Value→Shared→Prop),PassesOwn M A env E→(∀ s',C s'→Q v s')→wpAny M A t Q E s) : wpAny M A t Q E s:=h Q E PE hQ
noncomputable def LwC (g:Heap) (os:OsState) (s':Shared):Prop:=∃ h gs d tk,s'={ heap:=h,gens:=gs,drawn:=d,toks:=tk,os:=os }∧AllBare gs∧(∀ b o,g.get? b=some o→h.get? b=some o)∧GrownAll [(111,107),(104,100),(76,72),(61,57)] h
example:True:=by
  k_with "execs cons"=>((k_here;(with_reducible first | (refine consCutV (by assumption) ?_;intro zq16ftQ9 zq16fth9) | (refine consCutN ?_;intro zq16ftQ8 zq16fth8 zq16ftQ9 zq16fth9))))
  k_with "execs cons"=>(((rename tAt _ _=>zq16fuhT9);(with_reducible first | (refine consCutTV (by assumption) (Nat.le_trans zq16fuhT9.le (by (try dsimp only);first | exact Nat.le_refl _ | exact Nat.le_succ _ | omega)) ?_;intro zq16fuQ9 zq16fuh9) | (refine consCutTW (by assumption) (Nat.le_trans zq16fuhT9.le (by (try dsimp only);first | exact Nat.le_refl _ | exact Nat.le_succ _ | omega)) ?_;intro zq16fuQ9 zq16fuh9) | (refine consCutTN (Nat.le_trans zq16fuhT9.le (by (try dsimp only);first | exact Nat.le_refl _ | exact Nat.le_succ _ | omega)) ?_;intro zq16fuQ8 zq16fuh8 zq16fuQ9 zq16fuh9))))
  k_with "execs cons Assign cons"=>(walk_at "execs cons")
  k_with "x_out"=>(((with_reducible first | refine CutT.next (by assumption) ?_ | refine CutT.ret (by assumption) ?_ | refine CutT.brk (by assumption) ?_ | refine CutT.cont (by assumption) ?_ | refine CutH.next (by assumption) ?_ | refine CutH.ret (by assumption) ?_ | refine CutH.brk (by assumption) ?_ | refine CutH.cont (by assumption) ?_ | refine CutV.go (by assumption) _ _ ?_ | refine CutH.go (by assumption) _ _ ?_);(try dsimp only)))
  trivial
local macro_rules | `(tactic| k_steps)=>`(tactic| repeat' (k_extra "k_steps Lw"))
example:True:=by
  k_with "k_steps Lw"=>(first | (k_unfold;(try dsimp only)) | (k_end;kc_close) | (((with_reducible show wpAny _ _ (eval (Expr.Call _ _ _ _) _) _ _ _);(fail_if_success (with_reducible refine hasV (by assumption) ?_));refine cutV ?_;intro zq16fxQ9 zq16fxh9)) | walk1 | (dsimp only;walk1) | (leave1;walk_say "STEP leave1";(try dsimp only)) | ((with_reducible first | refine CutT.next (by assumption) ?_ | refine CutT.ret (by assumption) ?_ | refine CutT.brk (by assumption) ?_ | refine CutT.cont (by assumption) ?_ | refine CutH.next (by assumption) ?_ | refine CutH.ret (by assumption) ?_ | refine CutH.brk (by assumption) ?_ | refine CutH.cont (by assumption) ?_ | refine CutV.go (by assumption) _ _ ?_ | refine CutH.go (by assumption) _ _ ?_);(try dsimp only)) | fail "no step")
  k_with "binaryOp Add str str"=>((k_here;(with_reducible show wpAny _ _ (binaryOp Operator.Add (Value.str _ _) (Value.str _ _)) _ _ _);(rename tAt _ _=>zq16fyhT9);(refine toksLe (Nat.le_trans zq16fyhT9.le (by (try dsimp only);omega)) ?_);(refine SBL.add (hsz:=?kwhsz) ?_;(case kwhsz=>size_fits));intro _ _ _))
  k_with "compareOp NotEq ref ref"=>((k_here;(with_reducible show wpAny _ _ (compareOp CmpOp.NotEq (Value.ref _) (Value.ref _)) _ _ _);(refine' ne_same ?kwz1 ?kwz2 ?kwz3 ?kwz4 ?kwz5 ?_;(case kwz1=>ke_read);(case kwz2=>ke_read);(case kwz3=>first | exact Fct.out (by assumption) | rfl | (simp [SeqAt.shaped,PyData.canLay0,PyData.canLayAll0,PyData.depth,PyData.depthAll];done));(case kwz4=>ke_room);(case kwz5=>simp [PyData.eqv,PyData.eqvAll]))))
  k_with "exec For Tuple Call"=>((k_here;refine Stopped.go ?_))
  k_with "call ref"=>((k_here;(refine cI (n:=262) (by with_reducible rfl) ?_);k_dflt (refine' (lp_figs _ _ (by with_reducible assumption) (by omega) _) ?kwB ?kwF ?kwX ?kwT ?kwc1 ?kwc2 ?kwc3 ?kwc4 ?kwd ?kwu ?kwp ?_;walk_at "m_used")))
  k_with "call ref"=>((k_here;(refine cI (n:=262) (by with_reducible rfl) ?_);k_dflt (refine' (lp_figs4 _ _ (by with_reducible assumption) _) ?kwB ?kwF ?kwX ?kwT ?kwc1 ?kwc2 ?kwc3 ?kwc4 ?kwd ?kwu ?kwp ?_;walk_at "m_used")))
  k_with "call ref"=>((k_here;(refine cI (n:=241) (by with_reducible rfl) ?_);k_dflt (refine' (lp_dir _ (by with_reducible assumption) _) ?kwB ?kwF ?kwX ?kwT ?kwc1 ?kwc2 ?kwc3 ?kwc4 ?kwd ?kwu ?kwp ?_;walk_at "m_used")))
  k_with "call ref"=>((k_here;(refine cI (n:=241) (by with_reducible rfl) ?_);k_dflt (refine' (lp_dir2 _ (by with_reducible assumption) _) ?kwB ?kwF ?kwX ?kwT ?kwc1 ?kwc2 ?kwc3 ?kwc4 ?kwd ?kwu ?kwp ?_;walk_at "m_used")))
  k_with "call ref"=>((k_here;(refine cI (n:=234) (by with_reducible rfl) ?_);k_dflt (refine' (lp_base _ (by with_reducible assumption) _) ?kwB ?kwF ?kwX ?kwT ?kwc1 ?kwc2 ?kwc3 ?kwc4 ?kwd ?kwu ?kwp ?_;walk_at "m_used")))
  k_with "call ref"=>((k_here;(refine cI (n:=234) (by with_reducible rfl) ?_);k_dflt (refine' (lp_base2 _ (by with_reducible assumption) _) ?kwB ?kwF ?kwX ?kwT ?kwc1 ?kwc2 ?kwc3 ?kwc4 ?kwd ?kwu ?kwp ?_;walk_at "m_used")))
  k_with "call ref"=>((k_here;(refine cI (n:=267) (by with_reducible rfl) ?_);k_dflt (refine' (lp_text _ _ _ (by with_reducible assumption) (by with_reducible assumption)) ?kwB ?kwF ?kwX ?kwT ?kwc1 ?kwc2 ?kwc3 ?kwc4 ?kwd ?kwu ?kwp ?_;(case kwp=>exact News.isList (by k_asm) (by k_mem));walk_at "m_used")))
  k_with "call ref"=>((k_here;(refine cI (n:=267) (by with_reducible rfl) ?_);k_dflt (refine' (lp_text3 _ _ _ _ _) ?kwB ?kwF ?kwX ?kwT ?kwc1 ?kwc2 ?kwc3 ?kwc4 ?kwd ?kwu ?kwp ?_;(case kwp=>exact News.isList (by k_asm) (by k_mem));walk_at "m_used")))
  k_with "x_ap"=>(first | with_reducible assumption | exact apart_lst | exact apart_list | exact apart_seq | exact apart_cell (by with_reducible assumption))
  k_with "x_spl"=>(first | exact SplA.here | (refine' SplA.skip ?kwzap ?kwzr9;(case kwzap=>walk_at "x_ap");(case kwzr9=>walk_at "x_spl")))
  k_with "x_all"=>(((case kwzB=>k_asm);(case kwzF=>k_asm);(case kwzN=>k_asm);(case kwzhas=>exact Made.apart (by with_reducible assumption));(case kwzhs=>walk_at "x_spl");(case kwzX=>k_asm);(case kwzT=>k_asm);(case kwzG=>with_reducible assumption);(case kwz1=>exact rfl);(case kwz2=>exact rfl);(case kwz3=>first | exact rfl | assumption);(case kwz4=>first | exact rfl | assumption);(case kwzd=>(k_extra "s1");(try dsimp only);omega);(case kwzu=>(k_extra "s6");(try dsimp only);omega)))
  k_with "x_old"=>(((rename Fr _ _ _ _=>zq16gcF9);(rename News _ _ _ _=>zq16gcN9);(rename AllBare _=>zq16gcG9)))
  k_with "call ref"=>((k_here;(refine cI (n:=126) (by with_reducible rfl) ?_);(rename Tabs _=>zq16gdhT9);k_dflt (refine' callAB ?kwzsp ?kwzB ?kwzF ?kwzN ?kwzhs zq16gdhT9 ?kwzhas ?kwzX ?kwzT ?kwzG ?kwz1 ?kwz2 ?kwz3 ?kwz4 ?kwzd ?kwzu ?_;(case kwzsp=>first | exact idI _ _ _ ⟨by omega⟩ ⟨by omega⟩ | exact idC _ _ _ (by omega) (by omega));walk_at "x_all";(rename Fr _ _ _ _=>zq16gdF9);(rename News _ _ _ _=>zq16gdN9);(rename AllBare _=>zq16gdG9);clear zq16gdhT9 zq16gdF9 zq16gdN9 zq16gdG9;intro zq16gdv' zq16gdh' zq16gdg' zq16gdd' zq16gdtk' zq16gdmv' zq16gdg0' zq16gdF' zq16gdN' zq16gdhT' zq16gdhG' zq16gdhp' zq16gdhn';clear zq16gdN';(((first | refine exE zq16gdhp' ?_ | refine aE zq16gdhp' ?_);clear zq16gdhp';intro zq16gda';intro zz;k_extra "e";intro zq16gdo';intro zz;k_extra "e";intro zq16gde';intro zz;k_extra "e";intro zq16gdhge';intro zz;k_extra "e";intro zq16gdhget';intro zz;k_extra "e";intro zq16gdt1';intro zz;k_extra "e";intro zq16gdt2';intro zq16gde2'));(have zq16gdN':=zq16gdhn' zq16gda' zq16gdo' zq16gdhge' zq16gdhget');clear zq16gdhn' zq16gdhge' zq16gdhget';subst zq16gde';subst zq16gde2';((replace zq16gdN':=zq16gdN';simp only [List.cons_append,List.nil_append] at zq16gdN'));(try dsimp only))))
  k_with "call ref"=>((k_here;(refine cI (n:=255) (by with_reducible rfl) ?_);(rename Tabs _=>zq16gehT9);k_dflt (refine' callAB ?kwzsp ?kwzB ?kwzF ?kwzN ?kwzhs zq16gehT9 ?kwzhas ?kwzX ?kwzT ?kwzG ?kwz1 ?kwz2 ?kwz3 ?kwz4 ?kwzd ?kwzu ?_;(case kwzsp=>exact lp_path _ _ (by with_reducible assumption) _ _);walk_at "x_all";(rename Fr _ _ _ _=>zq16geF9);(rename News _ _ _ _=>zq16geN9);(rename AllBare _=>zq16geG9);clear zq16gehT9 zq16geF9 zq16geN9 zq16geG9;intro zq16gev' zq16geh' zq16geg' zq16ged' zq16getk' zq16gemv' zq16geg0' zq16geF' zq16geN' zq16gehT' zq16gehG' zq16gehp' zq16gehn';clear zq16gehn';(((first | refine exE zq16gehp' ?_ | refine aE zq16gehp' ?_);clear zq16gehp';intro zq16get';intro zq16gee'));subst zq16gee';((replace zq16geN':=zq16geN';simp only [List.cons_append,List.nil_append] at zq16geN'));(try dsimp only))))
  k_with "call ref"=>((k_here;(refine cI (n:=84) (by with_reducible rfl) ?_);(rename Tabs _=>zq16gfhT9);k_dflt (refine' call7 ?kwzsp ?kwzB ?kwzF ?kwzN ?kwzhs zq16gfhT9 ?kwzhas ?kwzX ?kwzT ?kwzG ?kwz1 ?kwz2 ?kwz3 ?kwz4 ?kwzd ?kwzu ?_;(case kwzsp=>first | exact lp_int1 _ (by with_reducible assumption) _ | exact lp_int2 _ (by with_reducible assumption) _ | exact lp_int3 _ (by with_reducible assumption) _);walk_at "x_all";(rename Fr _ _ _ _=>zq16gfF9);(rename News _ _ _ _=>zq16gfN9);(rename AllBare _=>zq16gfG9);clear zq16gfhT9 zq16gfF9 zq16gfN9 zq16gfG9;intro zq16gfv' zq16gfh' zq16gfg' zq16gfd' zq16gftk' zq16gfmv' zq16gfg0' zq16gfF' zq16gfN' zq16gfhT' zq16gfhG' zq16gfhp' zq16gfhn';clear zq16gfhn';(((first | refine exE zq16gfhp' ?_ | refine aE zq16gfhp' ?_);clear zq16gfhp';intro zq16gft';intro zq16gfe'));subst zq16gfe';((replace zq16gfN':=zq16gfN';simp only [List.cons_append,List.nil_append] at zq16gfN'));(try dsimp only))))
  k_with "call ref"=>((k_here;(refine cI (n:=274) (by with_reducible rfl) ?_);k_dflt (refine' (law_pats _ _ _ _ _ _ (by rfl) (by rfl) (by rfl)) ?kwB ?kwF ?kwX ?kwT ?kwc1 ?kwc2 ?kwc3 ?kwc4 ?kwd ?kwu ?kwp ?_;walk_at "m_used")))
  k_with "call ref"=>((k_here;(refine cI (n:=62) (by with_reducible rfl) ?_);refine Stopped.go ?_))
  k_with "x_nc"=>(first | exact .inl nocell_seq | exact .inr (Fct.out (by with_reducible assumption)))
  k_with "x_splc"=>(first | exact SplC.here (post:=[_]) (List.forall_mem_cons.mpr ⟨by walk_at "x_nc",List.forall_mem_nil _⟩) | (refine' SplC.skip ?kwznc ?kwzr9;(case kwznc=>walk_at "x_nc");(case kwzr9=>walk_at "x_splc")))
  k_with "storeName"=>((k_here;(with_reducible show wpAny _ _ (storeName _ (ofString "path") _) _ _ _);(rename News _ _ _ _=>zq16gkN9);(rename Fr _ _ _ _=>zq16gkF9);(rename Tabs _=>zq16gkhT9);k_dflt (refine' storeX_C zq16gkF9 zq16gkN9 ?kwzc (SplC.upd ?kwzs ?kwzdd ?kwztt zq16gkN9 ?kwzgg) ?kwzd2 ?_ ?kwza ?kwzb;(case kwzb=>rfl);(case kwza=>rfl);(case kwzc=>rfl);(case kwzs=>walk_at "x_splc");(case kwzdd=>with_reducible assumption);(case kwzd2=>with_reducible assumption);(case kwztt=>exact List.forall_mem_append.mpr ⟨tabs_nocell (tabs_like zq16gkhT9),made_nocell (by with_reducible assumption)⟩);(case kwzgg=>exact News.get zq16gkN9 (by k_mem)));clear zq16gkF9 zq16gkN9;intro zq16gkh' zq16gko' zq16gkF' zq16gkN' zq16gkd';(try (replace zq16gkN':=zq16gkN';dsimp only at zq16gkN'))))
  k_with "subscriptTail Call"=>((k_here;(with_reducible show wpAny _ _ (subscriptTail _ (PySem.Expr.Slice _ _ none _) (Value.ref _) (Value.ref _)) _ _ _);(rename News _ _ _ _=>zq16glN9);(try (replace zq16glN9:=zq16glN9;dsimp only at zq16glN9));(try dsimp only);(refine kba_turn (value':=Expr.Name (ofString "x") { line:=0,col:=0,endLine:=0,endCol:=0 }) (fun _=>rfl) ?_);(rename Fr _ _ _ _=>zq16glF9);(refine' kmk_slice_lit (s:=⟨_,_,_,_,_⟩) zq16glF9 zq16glN9 ?kwl ?kwp ?kwq ?kwe ?_ ?kws ?kwt ?kwz;(case kwl=>exact News.isList (items:=#[_,_,_,_]) zq16glN9 (by k_mem));(case kwp=>kmk_part);(case kwq=>kmk_part);(case kwe=>exact pick1);(case kws=>with_unfolding_all rfl);(case kwt=>exact fun _=>rfl);(case kwz=>exact Nat.le_of_ble_eq_true rfl));intro zq16glD' zq16glh' zq16glF' zq16glN' zq16gll1;(try k_lt zq16gll1);(try k_sweep)))
  k_with "x_cut"=>(first | exact Cut.here | (refine' Cut.skip ?kwzc9;(case kwzc9=>walk_at "x_cut")))
  k_with "x_subs"=>(first | exact List.forall_mem_nil _ | (refine' List.forall_mem_cons.mpr ⟨?kwzm9,?kwzr9⟩;(case kwzm9=>k_mem);(case kwzr9=>walk_at "x_subs")))
  k_with "call ref"=>((k_here;(refine cI (n:=293) (by with_reducible rfl) ?_);refine Stopped.go ?_))
  k_with "call ref"=>((k_here;(refine cI (n:=281) (by with_reducible rfl) ?_);refine Stopped.go ?_))
  trivial
theorem cellTok {o:Obj} {x:Str} {X:Tok} {P:Prop} (d : o.data=.cell (some (.str x X))) (k:∀ ts,ts=X→o.data=.cell (some (.str x ts))→P):P:=k X rfl d
example:True:=by
  k_with "TokQ"=>(((rename tAt _ _=>zq16gqhT9);(with_reducible show TokQ _ _ _);(refine TokQ.gen ?_);intro zq16gqk' zq16gqhk';(have zq16gqhT8:=tAt.mk zq16gqhk');clear zq16gqhk';(try dsimp only)))
  k_with "exec If"=>((k_here;(rename tAt _ _=>zq16grhT9);(refine ifT (Nat.le_trans zq16grhT9.le (by (try dsimp only);omega)) ?_)))
  k_with "TokQ"=>((k_here;(rename TokStop=>zq16gshz9);refine Stopped.go ?_))
  k_with "exec Assign cons ListComp"=>((k_here;(with_reducible show wpAny _ _ (exec (Stmt.Assign [Expr.Name _ _] (Expr.ListComp _ _ _ _) _) _) _ _ _);refine Stopped.go ?_))
  k_with "subscriptTail List"=>((k_here;(with_reducible show wpAny _ _ (subscriptTail _ (PySem.Expr.Slice _ _ none _) (Value.ref _) (Value.ref _)) _ _ _);(rename News _ _ _ _=>zq16guN9);(try (replace zq16guN9:=zq16guN9;dsimp only at zq16guN9));(try dsimp only);(refine kba_turn (value':=Expr.Name (ofString "x") { line:=0,col:=0,endLine:=0,endCol:=0 }) (fun _=>rfl) ?_);(rename Fr _ _ _ _=>zq16guF9);(refine' kmk_slice_ints (s:=⟨_,_,_,_,_⟩) (ns:=[0,5,0]) zq16guF9 zq16guN9 ?kwl ?kwp ?kwq ?kwi ?kwm ?kwc ?_ ?kws ?kwt ?kwz;(case kwl=>exact News.isList (items:=#[_,_,_]) zq16guN9 (by k_mem));(case kwp=>kmk_part);(case kwq=>kmk_part);(case kwi=>exact .cons _ _ (.cons _ _ (.cons _ _ .nil)));(case kwm=>exact kmk_from (.cons _ _ (.cons _ _ (.cons _ _ .nil))) (by omega));(case kwc=>exact List.length_drop ..);(case kws=>with_unfolding_all rfl);(case kwt=>exact fun _=>rfl);(case kwz=>exact Nat.le_of_ble_eq_true rfl));intro zq16guD' zq16guws' zq16guh' zq16guF' zq16guN' zq16gul1 zq16guhI' zq16guhC' zq16guhL';(try k_lt zq16gul1);(try k_sweep)))
  trivial
theorem fmodDig (x:Int):∃ n:Nat,n < 10∧Int.fmod x 10=(n:Int):=by
  rw [Int.fmod_eq_emod_of_nonneg _ (by decide)]
  exact ⟨(x % 10).toNat,by omega,by omega⟩
theorem intsThree {zs:List Value} {a b c:Int} (h:IntsAre zs [a,b,c]):∃ t u v,zs=[.int a t,.int b u,.int c v]:=by
  cases h with
  | cons _ t h=>cases h with
    | cons _ u h=>cases h with
      | cons _ v h=>cases h with
        | nil=>exact ⟨t,u,v,rfl⟩
example:True:=by
  k_with "storeName"=>((k_here;(with_reducible show wpAny _ _ (storeName _ (ofString "star") _) _ _ _);refine Stopped.go ?_))
  k_with "eval ListComp"=>((k_here;refine Stopped.go ?_))
  k_with "assign Tuple"=>((k_here;(with_reducible show wpAny _ _ (assign (Expr.Tuple _ _ _) _ (Value.ref _)) _ _ _);(rename News _ _ _ _=>zq16gxN9);k_dflt (refine' kun_list ?kwk1 ?kwk2 ?kwk3 ?kwk4 ?kwk5 ?kwk6 ?_;(case kwk1=>k_asm);(case kwk2=>exact zq16gxN9);(case kwk3=>exact News.isList (items:=#[_,_,_]) zq16gxN9 (by k_mem));(case kwk4=>exact rfl);(case kwk5=>exact rfl);(case kwk6=>exact rfl);k_whole);intro zq16gxh' zq16gxF' zq16gxN';(try k_sweep)))
  trivial
theorem strsThree {zs:List Value} {a b c:Str} (h:StrsAre zs [a,b,c]):∃ t u v,zs=[.str a t,.str b u,.str c v]:=by
  cases h with
  | cons _ t h=>cases h with
    | cons _ u h=>cases h with
      | cons _ v h=>cases h with
        | nil=>exact ⟨t,u,v,rfl⟩
noncomputable def figOf (ns:List Int):List Int:=List.take (min 6 ns.length - 3) (List.drop 3 ns)++List.drop (((List.take (min 6 ns.length - 3) (List.drop 3 ns)).length:Int)).toNat [0,5,0]
theorem figOf_three (ns:List Int):∃ a b c,figOf ns=[a,b,c]:=by
  have h:(figOf ns).length=3:=by
    unfold figOf
    simp only [List.length_append,List.length_take,List.length_drop,Int.toNat_natCast,List.length_cons,List.length_nil]
    omega
  match figOf ns,h with
  | [a,b,c],_=>exact ⟨a,b,c,rfl⟩
theorem or5E {a b c d e G:Prop} (h : a∨b∨c∨d∨e) (x : a→G) (y : b→G) (z : c→G) (u : d→G) (v : e→G):G:=Or.elim h x fun h=>Or.elim h y fun h=>Or.elim h z fun h=>Or.elim h u v
theorem lw:PySem.Challenge.rw_in0210_01.Holds:=Mine.hd (by
  k_fill
  (with_reducible refine pickI (n:=neW) (h:=(?_:AllB _) (pick _ _));intros w;refine bodyMk ?_)
  intro s₀ s₁ mg mb G Y fa o pm cd doc dV kV ho hd hcd hD hmg hg args vals as hpre hlay hrd hwl hlo
  have KX:=km_in_of Y
  km_tabs Y
  have X:=(Ground.X G).1
  have V:=(Ground.X G).2
  refine Ground.open G ?_
  intro T B D TE TW
  try (refine guard_noD D (by decide +kernel) ?_;clear D)
  km_lay T hmg ho hd cd
  clear hmg
  wrow_args hpre hlay hrd hwl hlo
  refine enter_call ?_
  w_top on
  refine kn_postG hT9 (fun _ _=>rfl) ?_
  w_call any ho hd hcd hD T F
  clear hd
  kn_ghosts F T
  k_drop
  skip
  (rename CellsAre _ _ _=>Y0);(rename Fr _ _ _ _=>F);(rename News _ _ _ _=>N);(rename Below _ _ _ _=>B);(rename Top _ _ _ _ _ (ghostOf _ _)=>T);(rename Frag.In _ (ghostOf _ _)=>X0);(rename IntsAre _ _=>hI);(rename Heap.IsList (ghostOf _ _) _ _=>hpre);(rename And _ _=>l0)
  refine absQ (.ret (.bool true)) (LwC (ghostOf s₁.heap [(111,107),(104,100),(76,72),(61,57)]) s₁.os) (by with_unfolding_all passes_own) ?_ ?_
  · clear hcd
    (intro s' zo32;(first | refine exE zo32 ?_ | refine aE zo32 ?_);clear zo32;intro h9 zz;k_extra "e";intro gs9 zz;k_extra "e";intro d9 zz;k_extra "e";intro tk9 zz;k_extra "e";intro zo33 zz;subst zo33;k_extra "e";intro hG9 zz;k_extra "e";intro hk9 hgr9)
    exact ⟨⟨.inl ⟨.bool true,.bool true,[],rfl,fun _=>rfl,.bool true,(by with_unfolding_all rfl),fun _=>⟨List.nodup_nil,fun a ha=>nomatch ha⟩⟩,hk9,rfl,rfl⟩,hG9,hgr9⟩
  intro Q E hE hQ
  have G0:=AllBare.of_eq hg
  clear hcd hT8 hg ho
  clear V TE TW hT9
  clear G
  clear Y
  (rename (Obj.data _=Data.cell _)=>d1);revert d1
  (rename (Obj.data _=Data.cell _)=>d2);intro d1
  (rename ¬ (_ < _)=>hlen)
  clear X
  revert F N T X0 B hI hpre l0 hE hQ G0 d1 d2
  generalize ghostOf _ _=g
  generalize s₁.heap.objs.size=L
  generalize s₁.gens=gs0
  generalize s₁.drawn=dr0
  generalize s₁.os=os0
  intros
  (rename Fr _ _ _ _=>F);(rename News _ _ _ _=>N);(rename Below _ _ _ _=>B);(rename Top _ _ _ _ _ g=>T);(rename Frag.In _ g=>X);(rename IntsAre _ _=>hI);(rename Heap.IsList g _ _=>hpre);(rename PassesOwn _ _ _ _=>hE);(rename (∀ s',LwC _ _ s'→_)=>hQ);(rename AllBare _=>G0);(rename And _ _=>l0)
  (rename (Obj.data _=Data.cell _)=>d1);revert d1
  (rename (Obj.data _=Data.cell _)=>d2);intro d1
  (rename List Int=>ns);(rename List Value=>vs)
  clear hD Y0
  clear codeHd
  (try dsimp only)
  refine genTok ?_
  intro tk0
  have hT9:tAt 0 tk0:=⟨Nat.zero_le _⟩
  (try dsimp only)
  replace d1 : _=Data.cell none:=d1
  replace d2 : _=Data.cell none:=d2
  rename_i a _ hL1 ra1 w11 r01 hr1 _ h₁ _ o2 o1 c1 c2
  clear hL1 ra1 w11 r01 hr1 c1 c2
  replace F:Fr g L h₁ (fun y=>if y=ofString "script" then some (.ref a) else none):=F
  have hl : ns.length≤63:=by omega
  have hvl:=IntsAre.length hI
  have f1:Fct (@Ne Nat (L+1+1) (L+1)):=⟨by (show @Ne Nat _ _);omega⟩
  have f2:Fct (@Ne Nat 107 (L+1)):=⟨by (show @Ne Nat _ _);omega⟩
  have f3:Fct (@Ne Nat 100 (L+1)):=⟨by (show @Ne Nat _ _);omega⟩
  have f4:Fct (@Ne Nat 72 (L+1)):=⟨by (show @Ne Nat _ _);omega⟩
  have f5:Fct (@Ne Nat 57 (L+1)):=⟨by (show @Ne Nat _ _);omega⟩
  have f6:Fct (@Ne Nat 107 (L+1+1)):=⟨by (show @Ne Nat _ _);omega⟩
  have f7:Fct (@Ne Nat 100 (L+1+1)):=⟨by (show @Ne Nat _ _);omega⟩
  have f8:Fct (@Ne Nat 72 (L+1+1)):=⟨by (show @Ne Nat _ _);omega⟩
  have f9:Fct (@Ne Nat 57 (L+1+1)):=⟨by (show @Ne Nat _ _);omega⟩
  clear hlen codeHd
  (rename Tables _ _ _ _=>z1);clear z1
  (rename (Spec.Shape.has _ _=true)=>z1);clear z1
  (rename (PyData.layableAll0 _=true)=>z1);clear z1
  (rename (PyData.layable0 _=true)=>z1);clear z1
  (rename (WShape.hasAll _ _ _=true)=>z1);clear z1
  (rename (WData.layableAll _=true)=>z1);clear z1
  (try clear fa);(try clear o);(try clear pm);(try clear doc);(try clear s₀);(try clear s₁)
  revert s₀ s₁ fa w mg mb cd ns a vs h₁ o2 o1 Q E g L gs0 dr0 os0 tk0
  as_aux_lemma =>
    (with_reducible refine pickI (n:=neW) (h:=(?_:AllB _) (pick _ _));intros w;refine bodyMk ?_)
    intro s₀ s₁ mg mb fa cd
    intros u0
    intro ns a vs h₁ o2 o1 Q E
    intro g L gs0 dr0
    intro os0
    intros u1 u2 u3 u4 u5 u6 u7 u8 u9 u10
    intro tk0
    intros hT9 d1 d2 F hl hvl f1 f2 f3 f4 f5 f6 f7 f8 f9
    (rename News _ _ _ _=>N);(rename Below _ _ _ _=>B);(rename Top _ _ _ _ _ g=>T);(rename Frag.In _ g=>X);(rename IntsAre _ _=>hI);(rename Heap.IsList g _ _=>hpre);(rename PassesOwn _ _ _ _=>hE);(rename (∀ s',LwC _ _ s'→_)=>hQ);(rename AllBare _=>G0);(rename And _ _=>l0)
    k_steps
    show wpAny _ _ _ _ _ _
    (rename Fr _ _ _ _=>F5);(rename News _ _ _ _=>N5)
    (rename tAt _ _=>hT5);have hτ5:=hT5.le;clear hT5
    refine assignCompX (h₀ := g) (m := fun y => if y = ofString "script" then some (.ref a) else none) (τ := 1) (τ₀ := 0)
      (fun ax us i ys news' => IntsAre us (ns.take 3 ++ [12349, 7000, 530, 110005019]) ∧ 57 < ax ∧ IntsAre ys (((ns.take 3 ++ [12349, 7000, 530, 110005019]).take i).map fun x => Int.fmod x 1000000000) ∧
        news'=[(ax,W.listOf us.toArray 0),(L+1+1,o2),(L+1,o1),(107,tabObj #[]),(100,tabObj #[]),(72,tabObj #[]),(57,tabObj #[])])
      (by rfl) (Nat.zero_le _) (by rfl) (by with_unfolding_all rfl) (by with_unfolding_all rfl) (by decide) (by rfl) (by decide) (by rfl) (by rfl) (by rfl) ?src ?hit ?step ?done
    case src =>
      (intro ax us i ys news' zo34;(first | refine exE zo34 ?_ | refine aE zo34 ?_);clear zo34;intro h1 zz;k_extra "e";intro uo35 zz;k_extra "e";intro uo36 zo37;subst zo37)
      refine ⟨?_,0,.head _⟩
      have:=IntsAre.length h1
      rw [this,PySem.sizeLine_eq]
      simp
      omega
    case hit =>
      have hT9:tAt 0 tk0:=⟨Nat.zero_le _⟩
      have hstop:TokStop:=.mk
      k_steps
      show TokQ _ _ _
      intro _
      (rename Fr _ _ _ _=>F6);(rename News _ _ _ _=>N6);(rename IntsAre _ (_++_)=>hI6);(rename (_ < _∧_ < _∧_ < _∧_ < _∧_ < _∧_ < _∧_ < _∧_ < _)=>l6)
      refine ⟨_,_,_,_,_,_,_,rfl,rfl,?tk1,G0,F6,nsO N6 (mv:=[(_,_),(L+1+1,o2),(L+1,o1),(107,tabObj #[]),(100,tabObj #[]),(72,tabObj #[]),(57,tabObj #[])]) (by lcg_sub),hI6,l6.2.2.2.2.2.2.2,.nil,rfl⟩
      case tk1=>(try dsimp only);omega
    case step =>
      (intro ax us i ys;intro _;intro v I oI C oC D m₂ h gs dr tk E' hv zo38;(first | refine exE zo38 ?_ | refine aE zo38 ?_);clear zo38;intro hU zz;k_extra "e";intro hax zz;k_extra "e";intro hY zo39;subst zo39;intro hτ G' hNs hm2 F' N' off' ne' hap9)
      have hoff:=off'
      (try (replace off':=off';simp only [LCg.Off3,and_true] at off'))
      ((first | refine exE (iG hU hv) ?_ | refine aE (iG hU hv) ?_);intro k;intro zz;k_extra "e";intro tk';intro zz;k_extra "e";intro zo13;intro hk;subst zo13)
      have hT9:tAt 1 tk:=⟨hτ⟩
      k_steps
      (rename Fr _ _ _ _=>F6);(rename News _ _ _ _=>N6);(rename tAt _ _=>hT9)
      refine ⟨_,_,_,_,_,rfl,Nat.le_trans hT9.le (by (try dsimp only);omega),G',F6,N6,hoff,hU,hax,?_,rfl⟩
      rw [List.take_add_one,hk,List.map_append]
      exact intsSnoc hY
    case done =>
      (intro ax us D ys;intro _;intro h gs dr tk hτ G' zo40;(first | refine exE zo40 ?_ | refine aE zo40 ?_);clear zo40;intro hU zz;k_extra "e";intro hax zz;k_extra "e";intro hY zo41;subst zo41;intro F' N' off')
      (replace hY:=hY;rw [IntsAre.length hU,List.take_length] at hY)
      have hstop:TokStop:=.mk
      k_steps
      unfold Stopped
      (try refine CutT.next (by assumption) ?_)
      unfold TokQ
      intro _
      (rename TokStop=>hstop);clear hstop
      have hT9:tAt 1 tk:=⟨hτ⟩
      (try dsimp only)
      k_steps
      show wpAny _ _ _ _ _ _
      (rename Fr _ _ _ _=>F5);(rename News _ _ _ _=>N5);    replace N5:=nsO N5 (mv:=[(D,LCg.lst ys),(L+1+1,o2),(L+1,o1),(107,tabObj #[]),(100,tabObj #[]),(72,tabObj #[]),(57,tabObj #[])]) (by lcg_sub)
      refine assignCompX (h₀ := g) (m := fun z => if z = ofString "drawn" then some (.ref D) else if z = ofString "script" then some (.ref a) else none) (τ := 1) (τ₀ := 1)
        (fun ax us i zs news' => IntsAre us (figOf ns) ∧ 57 < ax ∧ IntsAre zs (((figOf ns).take i).map fun x => Int.fmod x 10) ∧
          news'=[(ax,W.listOf us.toArray 0),(D,LCg.lst ys),(L+1+1,o2),(L+1,o1),(107,tabObj #[]),(100,tabObj #[]),(72,tabObj #[]),(57,tabObj #[])])
        (by rfl) (by (rename tAt _ _=>hT5);exact hT5.le) (by rfl) (by with_unfolding_all rfl) (by with_unfolding_all rfl) (by decide) (by rfl) (by decide) (by rfl) (by rfl) (by rfl) ?src ?hit ?step ?done
      case src =>
        (intro ax us i zs news' zo42;(first | refine exE zo42 ?_ | refine aE zo42 ?_);clear zo42;intro h1 zz;k_extra "e";intro uo43 zz;k_extra "e";intro uo44 zo45;subst zo45)
        refine ⟨?_,0,.head _⟩
        ((first | refine exE (figOf_three ns) ?_ | refine aE (figOf_three ns) ?_);intro x1;intro zz;k_extra "e";intro x2;intro zz;k_extra "e";intro x3;intro e)
        (replace h1:=h1;rw [e] at h1)
        have:=IntsAre.length h1
        rw [this,PySem.sizeLine_eq]
        simp
      case hit =>
        have hT9:tAt 1 tk:=⟨hτ⟩
        k_steps
        (rename Fr _ _ _ _=>F6);(rename News _ _ _ _=>N6);(rename IntsAre _ (_++_)=>hI6)
        (rename (_ < _∧_)=>l6);(rename tAt _ _=>hT9)
        refine ⟨_,_,_,_,_,_,_,rfl,rfl,Nat.le_trans hT9.le (by (try dsimp only);omega),G',F6,nsO N6 (mv:=[(_,_),(D,LCg.lst ys),(L+1+1,o2),(L+1,o1),(107,tabObj #[]),(100,tabObj #[]),(72,tabObj #[]),(57,tabObj #[])]) (by lcg_sub),hI6,?_,.nil,rfl⟩
        (show @LT.lt Nat _ _ _);omega
      case step =>
        clear off' hU hY hax F5 N5
        (intro ax us i zs;intro _;intro v I oI C oC D₂ m₂ h gs dr tk E' hv zo46;(first | refine exE zo46 ?_ | refine aE zo46 ?_);clear zo46;intro hU zz;k_extra "e";intro hax zz;k_extra "e";intro hY zo47;subst zo47;intro hτ G' hNs hm2 F' N' off' ne' hap9)
        have hoff:=off'
        (try (replace off':=off';simp only [LCg.Off3,and_true] at off'))
        ((first | refine exE (iG hU hv) ?_ | refine aE (iG hU hv) ?_);intro k;intro zz;k_extra "e";intro tk';intro zz;k_extra "e";intro zo14;intro hk;subst zo14)
        have hT9:tAt 1 tk:=⟨hτ⟩
        k_steps
        (rename Fr _ _ _ _=>F6);(rename News _ _ _ _=>N6);(rename tAt _ _=>hT9)
        refine ⟨_,_,_,_,_,rfl,Nat.le_trans hT9.le (by (try dsimp only);omega),G',F6,N6,hoff,hU,hax,?_,rfl⟩
        rw [List.take_add_one,hk,List.map_append]
        exact intsSnoc hY
      case done =>
        ((first | refine exE off' ?_ | refine aE off' ?_);clear off';intro uo15;intro zz;k_extra "e";intro oD1;intro zz;k_extra "e";intro oD2;intro zz;k_extra "e";intro oD3;intro zz;k_extra "e";intro oD4;intro zz;k_extra "e";intro oD5;intro zz;k_extra "e";intro oD6;intro uo16)
        replace oD1:=Fct.mk oD1;replace oD2:=Fct.mk oD2;clear oD3 oD4 oD5 oD6
        clear hU hax F5 N5 hτ G'
        (intro ax us D₂ zs;intro _;intro h gs dr tk hτ G' zo48;(first | refine exE zo48 ?_ | refine aE zo48 ?_);clear zo48;intro hU zz;k_extra "e";intro hax zz;k_extra "e";intro hZ zo49;subst zo49;intro F' N' off')
        (replace hZ:=hZ;rw [IntsAre.length hU,List.take_length] at hZ)
        ((first | refine exE off' ?_ | refine aE off' ?_);clear off';intro uo17;intro zz;k_extra "e";intro oE0;intro zz;k_extra "e";intro oE1;intro zz;k_extra "e";intro oE2;intro zz;k_extra "e";intro oE3;intro zz;k_extra "e";intro oE4;intro zz;k_extra "e";intro oE5;intro zz;k_extra "e";intro oE6;intro uo18)
        replace oE0:=Fct.mk oE0;replace oE1:=Fct.mk oE1;replace oE2:=Fct.mk oE2;clear oE3 oE4 oE5 oE6
        ((first | refine exE (figOf_three ns) ?_ | refine aE (figOf_three ns) ?_);intro x1;intro zz;k_extra "e";intro x2;intro zz;k_extra "e";intro x3;intro e3)
        (replace hZ:=hZ;rw [e3] at hZ)
        ((first | refine exE (fmodDig x1) ?_ | refine aE (fmodDig x1) ?_);intro p0;intro zz;k_extra "e";intro hp0;intro ep)
        ((first | refine exE (fmodDig x2) ?_ | refine aE (fmodDig x2) ?_);intro q0;intro zz;k_extra "e";intro hq0;intro eq)
        ((first | refine exE (fmodDig x3) ?_ | refine aE (fmodDig x3) ?_);intro r0;intro zz;k_extra "e";intro hr0;intro er)
        (replace hZ:=hZ;simp only [List.map_cons,List.map_nil,ep,eq,er] at hZ)
        ((first | refine exE (intsThree hZ) ?_ | refine aE (intsThree hZ) ?_);intro u1;intro zz;k_extra "e";intro u2;intro zz;k_extra "e";intro u3;intro zo19;subst zo19)
        clear hZ hU
        have hT9:tAt 1 tk:=⟨hτ⟩
        k_steps
        (rename Fr _ _ _ _=>F5);(rename News _ _ _ _=>N5)
        k_extra "r42"
        show wpAny _ _ _ _ _ _
        refine evalCompX (h₀ := g) (L := L) (m := fun z => if z = ofString "figures" then some (.ref D₂) else if z = ofString "drawn" then some (.ref D) else if z = ofString "script" then some (.ref a) else none) (τ := 1) F5
          (fun ax us i zs news' => D₂ = ax ∧ us = [.int (p0 : Int) u1, .int (q0 : Int) u2, .int (r0 : Int) u3] ∧ StrsAre zs (([(p0 : Int), q0, r0].take i).map dgt) ∧
            news'=[(D₂,LCg.lst [.int (p0:Int) u1,.int (q0:Int) u2,.int (r0:Int) u3]),(D,LCg.lst ys),(L+1+1,o2),(L+1,o1),(107,tabObj #[]),(100,tabObj #[]),(72,tabObj #[]),(57,tabObj #[])])
          (by rfl) (by (rename tAt _ _=>hT5);exact hT5.le) (by with_unfolding_all rfl) (by decide) (by rfl) (by decide) (by rfl) ?src ?hit ?step ?done
        case src =>
          (intro ax us i zs news' zo50;(first | refine exE zo50 ?_ | refine aE zo50 ?_);clear zo50;intro zo51 zz;subst zo51;k_extra "e";intro zo52 zz;subst zo52;k_extra "e";intro uo53 zo54;subst zo54)
          exact ⟨by rw [PySem.sizeLine_eq];simp,_,.head _⟩
        case hit =>
          k_steps
          (rename Fr _ _ _ _=>F6);(rename News _ _ _ _=>N6);(rename tAt _ _=>hT9)
          exact ⟨_,_,_,_,_,_,_,rfl,rfl,Nat.le_trans hT9.le (by (try dsimp only);omega),G',F6,N6,rfl,rfl,.nil,rfl⟩
        case step =>
          clear F5 N5
          (intro ax us i zs;intro _;intro v I oI C oC D3 m₂ h gs dr tk E' hv zo55;(first | refine exE zo55 ?_ | refine aE zo55 ?_);clear zo55;intro zo56 zz;subst zo56;k_extra "e";intro zo57 zz;subst zo57;k_extra "e";intro hJ zo58;subst zo58;intro hτ G' hNs hm2 F' N' off' ne' hap9)
          ((first | refine exE (iG (.cons _ u1 (.cons _ u2 (.cons _ u3 .nil))) hv) ?_ | refine aE (iG (.cons _ u1 (.cons _ u2 (.cons _ u3 .nil))) hv) ?_);intro k;intro zz;k_extra "e";intro tk';intro zz;k_extra "e";intro zo20;intro hk;subst zo20)
          have hk0 : 0≤k∧k≤9:=by have:=List.mem_of_getElem? hk;(replace this:=this;simp at this);omega
          have hit:Fct (Txt.item (ofString "0123456789") k=dgt k):=⟨item_digits hk0.1 hk0.2⟩
          have hr9 : fitsSsize k=true:=by unfold fitsSsize;simp;omega
          have hT9:tAt 1 tk:=⟨hτ⟩
          k_steps
          (rename Fr _ _ _ _=>F6);(rename News _ _ _ _=>N6);(rename tAt _ _=>hT9)
          refine ⟨_,_,_,_,_,rfl,Nat.le_trans hT9.le (by (try dsimp only);omega),G',F6,N6,off',rfl,rfl,?_,rfl⟩
          rw [List.take_add_one,hk,List.map_append]
          show StrsAre _ (_++[dgt k])
          rw [← hit.out]
          exact strsSnoc hJ
        case done =>
          clear F5 N5
          (intro ax us D3 zs;intro _;intro h gs dr tk hτ G' zo59;(first | refine exE zo59 ?_ | refine aE zo59 ?_);clear zo59;intro zo60 zz;subst zo60;k_extra "e";intro zo61 zz;subst zo61;k_extra "e";intro hJ zo62;subst zo62;intro F' N' off')
          ((first | refine exE (strsThree hJ) ?_ | refine aE (strsThree hJ) ?_);intro v1;intro zz;k_extra "e";intro v2;intro zz;k_extra "e";intro v3;intro zo21;subst zo21)
          clear hJ off'
          have hT9:tAt 1 tk:=⟨hτ⟩
          clear F5 N5
          k_steps
          (rename News _ _ _ _=>N5)
          (rename Fr _ _ _ _=>F5); show wpAny _ _ _ _ _ _
          k_extra "r42"
          refine' storeX_C (c:=L+1) F5 N5 ?c ?U d1 ?_ ?za ?zb
          case zb=>rfl
          case za=>rfl
          case c=>rfl
          case U=>exact .tail (Ne.symm oE2.out) (.tail (Ne.symm oD2.out) (.tail f1.out (.head (List.forall_mem_cons.mpr ⟨f2.out,List.forall_mem_cons.mpr ⟨f3.out,List.forall_mem_cons.mpr ⟨f4.out,List.forall_mem_cons.mpr ⟨f5.out,List.forall_mem_nil _⟩⟩⟩⟩))))
          intro h' o' F' N' d'
          (try (replace N':=N';dsimp only at N'))
          refine cellTok d' ?_
          intro ts ets d2'
          (try refine CutT.next (by assumption) ?_)
          unfold TokQ
          intro _
          (try dsimp only)
          (try (replace ets:=ets;dsimp only at ets))
          (rename tAt _ _=>hT5)
          have hts : 1≤ts:=by rw [ets];exact hT5.le
          have hT9:tAt (ts+1) (ts+1):=⟨Nat.le_refl _⟩
          rw [← ets]
          clear hT5 d'
          k_steps
          show wpAny _ _ _ _ _ _
          (rename Fr _ _ _ _=>F5);(rename News _ _ _ _=>N5);(rename tAt _ _=>hT5)
          have hsok:=sieve_ok hp0 hq0 hr0
          refine assignCompX (h₀ := g) (L := L) (m := fun z => if z = ofString "r" then some (Value.str (dgt (r0 : Int)) v3) else if z = ofString "q" then some (Value.str (dgt (q0 : Int)) v2) else if z = ofString "p" then some (Value.str (dgt (p0 : Int)) v1) else if z = ofString "figures" then some (Value.ref D₂) else if z = ofString "drawn" then some (Value.ref D) else if z = ofString "script" then some (Value.ref a) else none) (τ := ts + 1) (τ₀ := ts + 1)
            (fun ax us i zs news' => StrsAre us ((svS p0 q0 r0).map segStr) ∧ ∃ n ps as, T57 posL posG ps ∧ Made ts zs as ((svS p0 q0 r0).take i) ∧
              news'=[(ax,W.listOf us.toArray n),(D₂,LCg.lst [.int (p0:Int) u1,.int (q0:Int) u2,.int (r0:Int) u3]),(D,LCg.lst ys),(L+1+1,o2),(L+1,o'),(107,tabObj #[]),(100,tabObj #[]),(72,tabObj #[]),(57,tabObj ps)]++as)
            (by rfl) hT5.le (by rfl) (by with_unfolding_all rfl) (by with_unfolding_all rfl) (by decide) (by rfl) (by decide) (by rfl) (by rfl) (by rfl) ?src ?hit ?step ?done
          case src =>
            (intro ax us i zs;intro _;intro zo63;(first | refine exE zo63 ?_ | refine aE zo63 ?_);clear zo63;intro h1 zz;k_extra "e";intro n zz;k_extra "e";intro ps zz;k_extra "e";intro as zz;k_extra "e";intro uo64 zz;k_extra "e";intro uo65 zo66;subst zo66)
            refine ⟨?_,n,.head _⟩
            rw [StrsAre.length h1,PySem.sizeLine_eq]
            simp [svS]
          case hit =>
            k_steps
            (rename Fr _ _ _ _=>F6);(rename News _ _ _ _=>N6);(rename tAt _ _=>hT6);(rename StrsAre _ (pats _ _ _)=>hU6)
            (replace hU6:=hU6;rw [pats_segs] at hU6)
            exact ⟨_,_,_,_,_,_,_,rfl,rfl,Nat.le_trans hT6.le (by (try dsimp only);omega),G',F6,N6,hU6,_,#[],[],t57_nil,.nil,rfl⟩
          case step =>
            clear F5 N5 hT5
            (intro ax us i zs;intro _;intro v I oI C oC D9 m₂ h gs dr tk E' hv zo67;(first | refine exE zo67 ?_ | refine aE zo67 ?_);clear zo67;intro hU zz;k_extra "e";intro n zz;k_extra "e";intro ps zz;k_extra "e";intro as zz;k_extra "e";intro h57 zz;k_extra "e";intro hM zo68;subst zo68;intro hτ G' hNs hm2 F' N' off' ne' hap9)
            ((first | refine exE (strsGet hU hv) ?_ | refine aE (strsGet hU hv) ?_);intro y;intro zz;k_extra "e";intro ty;intro zz;k_extra "e";intro zo22;intro hy;subst zo22)
            (replace hy:=hy;rw [List.getElem?_map] at hy)
            ((first | refine exE (Option.map_eq_some_iff.mp hy) ?_ | refine aE (Option.map_eq_some_iff.mp hy) ?_);intro gg;intro zz;k_extra "e";intro hgg;intro zo23;subst zo23)
            have hok:=hsok gg (List.mem_of_getElem? hgg)
            have hT9:tAt (ts+1) tk:=⟨hτ⟩
            k_steps
            show wpAny _ _ _ _ _ _
            (rename Fr _ _ _ _=>F6);(rename News _ _ _ _=>N6);(rename tAt _ _=>hT6)
            have hap:=apart_off (rest:=[(I,oI),(C,oC),(D9,LCg.lst zs),(ax,W.listOf us.toArray n),(D₂,LCg.lst [.int (p0:Int) u1,.int (q0:Int) u2,.int (r0:Int) u3]),(D,LCg.lst ys),(L+1+1,o2),(L+1,o')]++as) (mv:=[(57,tabObj ps)]) N6 ?hmv ?hr
            case hmv=>exact List.forall_mem_cons.mpr ⟨⟨t57_like h57,by k_mem⟩,List.forall_mem_nil _⟩
            case hr =>
              refine List.forall_mem_append.mpr ⟨?_,fun q hq=>⟨hM.apart q hq,by repeat (first | exact hq | apply List.Mem.tail)⟩⟩
              exact List.forall_mem_cons.mpr ⟨⟨hap9,by k_mem⟩,List.forall_mem_cons.mpr ⟨⟨apart_ns hNs,by k_mem⟩,List.forall_mem_cons.mpr ⟨⟨apart_lst,by k_mem⟩,List.forall_mem_cons.mpr ⟨⟨apart_list,by k_mem⟩,List.forall_mem_cons.mpr ⟨⟨apart_lst,by k_mem⟩,List.forall_mem_cons.mpr ⟨⟨apart_lst,by k_mem⟩,List.forall_mem_cons.mpr ⟨⟨apart_cell d2,by k_mem⟩,List.forall_mem_cons.mpr ⟨⟨apart_cell d2',by k_mem⟩,List.forall_mem_nil _⟩⟩⟩⟩⟩⟩⟩⟩
            refine toksLe (n:=ts+1) (Nat.le_trans hT6.le (by (try dsimp only);omega)) ?_
            refine callT (translate gg hok.1 hok.2 _ ts _ (Nat.ne_of_gt hts) ?ztq) (pre:=[(I,oI),(C,oC),(D9,LCg.lst zs),(ax,W.listOf us.toArray n),(D₂,LCg.lst [.int (p0:Int) u1,.int (q0:Int) u2,.int (r0:Int) u3]),(D,LCg.lst ys),(L+1+1,o2),(L+1,o'),(107,tabObj #[]),(100,tabObj #[]),(72,tabObj #[])]) (mv:=[(57,tabObj ps)]) (as:=as) B F6 N6 ⟨ps,rfl,h57⟩ ?off X T G' rfl rfl rfl rfl ?zd ?zu ?ztk ?zk
            case ztq=>exact Nat.lt_of_succ_le hτ
            case off =>
              intro q hq p hp
              (refine or2E (List.mem_append.mp hq) ?alo1_0 ?alo1_1;(case' alo1_1=>(intro hq));(case' alo1_0=>(intro hq)))
              · (refine or2E (List.mem_append.mp (show q ∈ [(I, oI), (C, oC), (D9, LCg.lst zs), (ax, W.listOf us.toArray n), (D₂, LCg.lst [.int (p0 : Int) u1, .int (q0 : Int) u2, .int (r0 : Int) u3]), (D, LCg.lst ys), (L + 1 + 1, o2), (L + 1, o')] ++ [(107, tabObj #[]), (100, tabObj #[]), (72, tabObj #[])] from hq)) ?alo2_0 ?alo2_1; (case' alo2_1 => (intro hq)); (case' alo2_0 => (intro hq)))
                · exact hap q (List.mem_append_left _ hq) p hp
                · obtain rfl := List.mem_singleton.mp hp
                  (replace hq:=hq;simp only [List.mem_cons,List.not_mem_nil,or_false] at hq)
                  rcases hq with rfl | rfl | rfl<;>first | exact (by decide:(57:Nat)≠107) | exact (by decide:(57:Nat)≠100) | exact (by decide:(57:Nat)≠72)
              · exact hap q (List.mem_append_right _ hq) p hp
            case zd=>(k_extra "s1");(try dsimp only);omega
            case zu=>(k_extra "s6");(try dsimp only);omega
            case ztk=>(try dsimp only);omega
            case zk =>
              (intro a9 o9 h9 g9 d9 tk9 mv9 F7 N7 zo69;(first | refine exE zo69 ?_ | refine aE zo69 ?_);clear zo69;intro ps' zz;k_extra "e";intro zo70 h57';subst zo70;intro zo71;(first | refine exE zo71 ?_ | refine aE zo71 ?_);clear zo71;intro its zz;k_extra "e";intro nn zz;k_extra "e";intro zo72 hI7;subst zo72;intro hG7 hne7)
              intro htk9
              (repeat walk_at "x_out")
              refine ⟨h9,g9,d9,tk9,[(ax,W.listOf us.toArray n),(D₂,LCg.lst [.int (p0:Int) u1,.int (q0:Int) u2,.int (r0:Int) u3]),(D,LCg.lst ys),(L+1+1,o2),(L+1,o'),(107,tabObj #[]),(100,tabObj #[]),(72,tabObj #[]),(57,tabObj ps')]++(a9,W.listOf its nn)::as,rfl,htk9,hG7,F7,?_,?_,hU,n,ps',_,h57',?_,rfl⟩
              · exact newsMid (l:=[(I,oI),(C,oC),(D9,LCg.lst zs),(ax,W.listOf us.toArray n),(D₂,LCg.lst [.int (p0:Int) u1,.int (q0:Int) u2,.int (r0:Int) u3]),(D,LCg.lst ys),(L+1+1,o2),(L+1,o'),(107,tabObj #[]),(100,tabObj #[]),(72,tabObj #[]),(57,tabObj ps')]) N7
              · refine off3_mid (off3_set (l := [(ax, W.listOf us.toArray n), (D₂, LCg.lst [.int (p0 : Int) u1, .int (q0 : Int) u2, .int (r0 : Int) u3]), (D, LCg.lst ys), (L + 1 + 1, o2), (L + 1, o'), (107, tabObj #[]), (100, tabObj #[]), (72, tabObj #[])]) (o := tabObj ps) off') ⟨?_, ?_, ?_⟩
                · exact Ne.symm (hne7 (I,oI) (.head _))
                · exact Ne.symm (hne7 (C,oC) (.tail _ (.head _)))
                · exact Ne.symm (hne7 (D9,LCg.lst zs) (.tail _ (.tail _ (.head _))))
              · rw [List.take_add_one, hgg]
                exact .snoc a9 its nn gg hM hI7
          case done =>
            clear F5 N5 hT5
            (intro ax us S zs;intro _;intro h gs dr tk hτ G' zo73;(first | refine exE zo73 ?_ | refine aE zo73 ?_);clear zo73;intro hU zz;k_extra "e";intro n zz;k_extra "e";intro ps zz;k_extra "e";intro as zz;k_extra "e";intro h57 zz;k_extra "e";intro hM zo74;subst zo74;intro F' N' off')
            have hlu : us.length=(svS p0 q0 r0).length:=by rw [StrsAre.length hU,List.length_map]
            (replace hM:=hM;rw [hlu,List.take_length] at hM)
            replace N':=newsPart (l:=[(S,LCg.lst zs),(ax,W.listOf us.toArray n),(D₂,LCg.lst [.int (p0:Int) u1,.int (q0:Int) u2,.int (r0:Int) u3]),(D,LCg.lst ys),(L+1+1,o2),(L+1,o'),(107,tabObj #[]),(100,tabObj #[]),(72,tabObj #[]),(57,tabObj ps)]) (rest:=[(S,LCg.lst zs),(D₂,LCg.lst [.int (p0:Int) u1,.int (q0:Int) u2,.int (r0:Int) u3]),(D,LCg.lst ys),(L+1+1,o2),(L+1,o'),(107,tabObj #[]),(100,tabObj #[]),(72,tabObj #[]),(57,tabObj ps)]) N' (by lcg_sub)
            clear hU hlu off' ax us n
            (replace N':=N';simp only [List.cons_append,List.nil_append] at N')
            have hT9:tAt (ts+1) tk:=⟨hτ⟩
            have hl1:(dgt (r0:Int)).length=1:=rfl
            have hl2:(ofString "**").length=2:=by decide +kernel
            have hl3:(ofString "***").length=3:=by decide +kernel
            k_steps
            show wpAny _ _ _ _ _ _
            (rename Fr _ _ _ _=>F6);(rename News _ _ _ _=>N6);(rename tAt _ _=>hT6)
            have hap:=apart_off (rest:=[(S,LCg.lst zs),(D₂,LCg.lst [.int (p0:Int) u1,.int (q0:Int) u2,.int (r0:Int) u3]),(D,LCg.lst ys),(L+1+1,o2),(L+1,o')]++as) (mv:=[(57,tabObj ps)]) N6 ?hmv ?hr
            case hmv=>exact List.forall_mem_cons.mpr ⟨⟨t57_like h57,by k_mem⟩,List.forall_mem_nil _⟩
            case hr =>
              refine List.forall_mem_append.mpr ⟨?_,fun q hq=>⟨hM.apart q hq,by repeat (first | exact hq | apply List.Mem.tail)⟩⟩
              exact List.forall_mem_cons.mpr ⟨⟨apart_lst,by k_mem⟩,List.forall_mem_cons.mpr ⟨⟨apart_lst,by k_mem⟩,List.forall_mem_cons.mpr ⟨⟨apart_lst,by k_mem⟩,List.forall_mem_cons.mpr ⟨⟨apart_cell d2,by k_mem⟩,List.forall_mem_cons.mpr ⟨⟨apart_cell d2',by k_mem⟩,List.forall_mem_nil _⟩⟩⟩⟩⟩
            rw [star_str r0]
            refine toksLe (n:=ts+1) (Nat.le_trans hT6.le (by (try dsimp only);omega)) ?_
            refine callT (translate (starSegs r0) (star_ok hr0).1 (star_ok hr0).2 _ ts _ (Nat.ne_of_gt hts) ?ztq) (pre:=[(S,LCg.lst zs),(D₂,LCg.lst [.int (p0:Int) u1,.int (q0:Int) u2,.int (r0:Int) u3]),(D,LCg.lst ys),(L+1+1,o2),(L+1,o'),(107,tabObj #[]),(100,tabObj #[]),(72,tabObj #[])]) (mv:=[(57,tabObj ps)]) (as:=as) B F6 N6 ⟨ps,rfl,h57⟩ ?off X T G' rfl rfl rfl rfl ?zd ?zu ?ztk ?zk
            case ztq=>exact Nat.lt_of_succ_le hT6.le
            case off =>
              intro q hq p hp
              (refine or2E (List.mem_append.mp hq) ?alo3_0 ?alo3_1;(case' alo3_1=>(intro hq));(case' alo3_0=>(intro hq)))
              · (refine or2E (List.mem_append.mp (show q ∈ [(S, LCg.lst zs), (D₂, LCg.lst [.int (p0 : Int) u1, .int (q0 : Int) u2, .int (r0 : Int) u3]), (D, LCg.lst ys), (L + 1 + 1, o2), (L + 1, o')] ++ [(107, tabObj #[]), (100, tabObj #[]), (72, tabObj #[])] from hq)) ?alo4_0 ?alo4_1; (case' alo4_1 => (intro hq)); (case' alo4_0 => (intro hq)))
                · exact hap q (List.mem_append_left _ hq) p hp
                · obtain rfl := List.mem_singleton.mp hp
                  (replace hq:=hq;simp only [List.mem_cons,List.not_mem_nil,or_false] at hq)
                  rcases hq with rfl | rfl | rfl<;>first | exact (by decide:(57:Nat)≠107) | exact (by decide:(57:Nat)≠100) | exact (by decide:(57:Nat)≠72)
              · exact hap q (List.mem_append_right _ hq) p hp
            case zd=>(k_extra "s1");(try dsimp only);omega
            case zu=>(k_extra "s6");(try dsimp only);omega
            case ztk=>(try dsimp only);have:=hT6.le;omega
            case zk =>
              clear F6 N6 hap h57 hT6
              (intro a9 o9 h9 g9 d9 tk9 mv9 F7 N7 zo75;(first | refine exE zo75 ?_ | refine aE zo75 ?_);clear zo75;intro ps' zz;k_extra "e";intro zo76 h57';subst zo76;intro zo77;(first | refine exE zo77 ?_ | refine aE zo77 ?_);clear zo77;intro its zz;k_extra "e";intro nn zz;k_extra "e";intro zo78 hI7;subst zo78;intro hG7 hne7)
              intro htk9
              have hT9:tAt (ts+1) tk9:=⟨htk9⟩
              (replace hI7:=hI7;rw [star_parts r0] at hI7)
              ((first | refine exE (its_three (x:=dgt (r0:Int)) (sign_many2 _) hI7) ?_ | refine aE (its_three (x:=dgt (r0:Int)) (sign_many2 _) hI7) ?_);intro t9;intro e9)
              obtain rfl : its=#[Value.str many ts,Value.str (dgt (r0:Int)) t9,Value.str many ts]:=by cases its;simpa using e9
              (replace N7:=N7;simp only [List.cons_append,List.nil_append] at N7)
              clear e9 hI7 hne7 htk9
              have sh9:Fct (SeqAt.shaped (.list [.str many,.str (dgt (r0:Int)),.str many])=true):=⟨shaped_star hr0⟩
              (try dsimp only)
              k_steps
              show wpAny _ _ _ _ _ _
              (rename Fr _ _ _ _=>F5);(rename News _ _ _ _=>N5)
              replace N5:News g L _ ([(S,LCg.lst zs),(D₂,LCg.lst [.int (p0:Int) u1,.int (q0:Int) u2,.int (r0:Int) u3]),(D,LCg.lst ys),(L+1+1,o2),(L+1,o')]++([(100,tabObj #[]),(100,tabObj #[]),(107,tabObj #[]),(107,tabObj #[]),(72,tabObj #[]),(72,tabObj #[]),(57,tabObj ps')]++as)):=fun p9 hp9=>N5 p9 (by
                simp only [List.cons_append,List.nil_append,List.mem_cons] at hp9 ⊢
                rcases hp9 with h | h | h | h | h | h | h | h | h | h | h | h | h<;>simp [h])
              have hT0:Tabs [(100,tabObj #[]),(100,tabObj #[]),(107,tabObj #[]),(107,tabObj #[]),(72,tabObj #[]),(72,tabObj #[]),(57,tabObj ps')]:=⟨_,_,_,_,_,_,_,_,_,_,rfl,.none,.none,.none,h57'⟩
              refine forEnumX (h₀:=g) (τ:=0) (l:=D) (vs:=ys) (LwJ L D D₂ S as o' ys zs p0 q0 r0 u1 u2 u3) (by rfl) (Nat.zero_le _) (by rfl) (by rfl) (by rfl) ?src ?hit ?step ?done (hE:=hE)
              case src =>
                (intro i m';intro _;intro zo79;(first | refine exE zo79 ?_ | refine aE zo79 ?_);clear zo79;intro gm zz;k_extra "e";intro mv zz;k_extra "e";intro oP zz;k_extra "e";intro vP zz;k_extra "e";intro uo80 zz;k_extra "e";intro uo81 zz;k_extra "e";intro uo82 zo83;subst zo83)
                exact ⟨_,.tail _ (.tail _ (.head _))⟩
              case hit =>
                k_steps
                show wpAny _ _ _ _ _ _
                (rename Fr _ _ _ _=>F6);(rename News _ _ _ _=>N6)
                refine call_enumerate_list (News.isList (items:=ys.toArray) N6 (by k_mem)) ?_;intro h8 hE8 hI8 hz8 hk8
                (repeat walk_at "x_out")
                intro _
                have hs8:=F6.ns.lt
                exact ⟨_,_,_,_,_,_,_,_,rfl,rfl,hE8,hI8,Nat.succ_ne_self _,Nat.zero_le _,hG7,F6.keeps hk8,N6.grown hk8,fun p hp=>⟨Nat.ne_of_lt (Nat.lt_succ_of_lt (Heap.lt_size (N6 p hp).1)),Nat.ne_of_lt (Heap.lt_size (N6 p hp).1)⟩,Heap.get?_none_of_le (Nat.le_trans F6.above (Nat.le_of_lt (Nat.lt_succ_of_lt hs8))),Heap.get?_none_of_le (Nat.le_trans F6.above (Nat.le_of_lt hs8)),Nat.ne_of_gt (Nat.lt_succ_of_lt hs8),Nat.ne_of_gt hs8,_,_,o2,_,hT0,d2,by walk_at "k_canon",rfl⟩
              case step =>
                clear F5 N5 hT0
                (repeat (rename tAt _ _=>hz;clear hz))
                (intro i v tn m₁ news₁ h gs dr tk e oe it oi hv hτ G' zo84;(first | refine exE zo84 ?_ | refine aE zo84 ?_);clear zo84;intro gm zz;k_extra "e";intro mv zz;k_extra "e";intro oP zz;k_extra "e";intro vP zz;k_extra "e";intro hT zz;k_extra "e";intro dP zz;k_extra "e";intro zo85 zo86;subst zo85;subst zo86;intro F' N' off' hei hap1 hap2)
                ((first | refine exE (iG hY hv) ?_ | refine aE (iG hY hv) ?_);intro k;intro zz;k_extra "e";intro tv;intro zz;k_extra "e";intro zo24;intro hk;subst zo24)
                have zo25:∃ N:Nat,N < 1000000000∧k=(N:Int):=by
                  (replace hk:=hk;rw [List.getElem?_map] at hk)
                  ((first | refine exE (Option.map_eq_some_iff.mp hk) ?_ | refine aE (Option.map_eq_some_iff.mp hk) ?_);intro x;intro zz;k_extra "e";intro uo26;intro zo27;subst zo27)
                  rw [Int.fmod_eq_emod_of_nonneg _ (by decide)]
                  exact ⟨(x % 1000000000).toNat,by omega,by omega⟩
                ((first | refine exE zo25 ?_ | refine aE zo25 ?_);clear zo25;intro N;intro zz;k_extra "e";intro hN;intro zo28;subst zo28)
                have g1:Fct (Int.fdiv (N:Int) 1000=((N / 1000:Nat):Int)):=⟨fdivN N 1000⟩
                have g2:Fct (Int.fmod (N:Int) 1000+1000=((N % 1000:Nat):Int)+1000):=⟨by rw [show Int.fmod (N:Int) 1000=((N % 1000:Nat):Int) from fmodN N 1000]⟩
                have g4:Fct (@Ne Nat e (L+1+1)):=⟨Ne.symm (off' (L+1+1,oP) (.tail _ (.tail _ (.tail _ (.head _))))).1⟩
                have g5:Fct (@Ne Nat it (L+1+1)):=⟨Ne.symm (off' (L+1+1,oP) (.tail _ (.tail _ (.tail _ (.head _))))).2⟩
                have g6:Fct (@Ne Nat (L+1) (L+1+1)):=⟨Ne.symm f1.out⟩
                have hofF:=Fct.mk off'
                clear off'
                have g7:Fct (((⟨(csN N).toArray⟩:Str) != ofString "/"++cN N++ofString "/"++dN N)=false):=⟨lp_pathEq N⟩
                have hlen:=lp_len N hN
                have hlC:=hlen.1
                have hlD:=Nat.le_of_eq hlen.2.2.1
                have hlS:=hlen.2.2.2
                (replace N':=N';simp only [List.cons_append,List.nil_append] at N')
                clear hk hv hei
                k_steps
                show wpAny _ _ _ _ _ _
                (rename Fr _ _ _ _=>F5);(rename News _ _ _ _=>N5);(rename Tabs _=>hT5);(rename AllBare _=>G5);(rename IntsAre _ (figs _)=>hI5);(rename (_=Data.cell (some (Value.str _ _)))=>dP5)
                refine frName F5 (ofString "folder") rfl ?_
                intro fo efo
                refine frName F5 (ofString "name") rfl ?_
                intro nm enm
                subst efo enm
                refine loopCut (fo:=fo) (nm:=nm) (e:=e) (it:=it) (S:=S) (D:=D) (D₂:=D₂) (L1:=L+1) (L2:=L+1+1) (oe:=oe) (oi:=oi) (oS:=LCg.lst zs) (oD:=LCg.lst ys) (oD2:=LCg.lst [.int (p0:Int) u1,.int (q0:Int) u2,.int (r0:Int) u3]) (o':=o') (as:=as) (x0:=((N % 1000 / 100:Nat):Int)) (x1:=((N % 1000 / 10 % 10:Nat):Int)) (x2:=((N % 1000 % 10:Nat):Int)) hT5 hI5 dP5 N5 (by walk_at "x_subs") (by walk_at "x_cut") ?_
                clear N5 hT5 hI5 dP5
                intro mv2 fvs c1 c2 w0 w1 w2 w3 oP2 hT2 hI2 dP2 N5
                refine evalCompX (h₀ := g) (L := L) (τ := 0) F5
                  (fun ax us i bs news' => S = ax ∧ zs = us ∧ bs = ((svS p0 q0 r0).take i).map (fun gg => Value.bool (reach signF (csN N) (sgP gg) (csN N).length)) ∧
                    news'=[(fo,W.listOf fvs.toArray c1),(nm,W.listOf #[.int ((N % 1000 / 100:Nat):Int) w0,.int ((N % 1000 / 10 % 10:Nat):Int) w1,.int ((N % 1000 % 10:Nat):Int) w2] c2),(e,oe),(it,oi),(S,LCg.lst zs),(D₂,LCg.lst [.int (p0:Int) u1,.int (q0:Int) u2,.int (r0:Int) u3]),(D,LCg.lst ys),(L+1+1,oP2),(L+1,o')]++(mv2++as))
                  (by rfl) (Nat.zero_le _) (by with_unfolding_all rfl) (by decide) (by rfl) (by decide) (by rfl) ?csrc ?chit ?cstep ?cdone
                case csrc =>
                  (intro ax us i bs news' zo87;(first | refine exE zo87 ?_ | refine aE zo87 ?_);clear zo87;intro zo88 zz;subst zo88;k_extra "e";intro zo89 zz;subst zo89;k_extra "e";intro uo90 zo91;subst zo91)
                  exact ⟨by rw [hM.len,PySem.sizeLine_eq];simp [svS],_,.tail _ (.tail _ (.tail _ (.tail _ (.head _))))⟩
                case chit =>
                  k_steps
                  (rename Fr _ _ _ _=>F6);(rename News _ _ _ _=>N6)
                  intro _
                  exact ⟨_,_,_,_,_,_,_,rfl,rfl,Nat.zero_le _,G5,F6,N6,rfl,rfl,rfl,rfl⟩
                case cstep =>
                  clear F5 N5 G5
                  (intro ax us i bs;intro _;intro v I oI C oC D9 m₂ h gs dr tk E' hv zo92;(first | refine exE zo92 ?_ | refine aE zo92 ?_);clear zo92;intro zo93 zz;subst zo93;k_extra "e";intro zo94 zz;subst zo94;k_extra "e";intro zo95 zo96;subst zo95;subst zo96;intro hτ G' hNs hm2 F' N' off' ne' hap9)
                  ((first | refine exE (hM.get hv) ?_ | refine aE (hM.get hv) ?_);intro a9;intro zz;k_extra "e";intro its;intro zz;k_extra "e";intro n9;intro zz;k_extra "e";intro gg;intro zz;k_extra "e";intro zo29;intro zz;subst zo29;k_extra "e";intro hmem;intro zz;k_extra "e";intro hgg;intro hI9)
                  (replace N':=N';simp only [List.cons_append,List.nil_append] at N')
                  k_steps
                  show wpAny _ _ _ _ _ _
                  (rename Fr _ _ _ _=>F6);(rename News _ _ _ _=>N6)
                  refine' (lp_takes N hN p0 q0 r0 hp0 hq0 hr0 gg (List.mem_of_getElem? hgg) a9 ts its hI9 _) ?zB ?zF ?zX ?zT ?z1 ?z2 ?z3 ?z4 ?zd ?zu ?zp ?_
                  k_extra "r43"
                  case zp=>exact ⟨_,(N6 (a9,W.listOf its n9) (by repeat (first | exact List.mem_append_right _ hmem | apply List.Mem.tail))).1,rfl,_,rfl⟩
                  intro v9 h9 tk9 hk9 hz9 hp9
                  obtain rfl : v9=_:=hp9
                  (repeat walk_at "x_out")
                  refine ⟨h9,_,_,tk9,[(fo,W.listOf fvs.toArray c1),(nm,W.listOf #[.int ((N % 1000 / 100:Nat):Int) w0,.int ((N % 1000 / 10 % 10:Nat):Int) w1,.int ((N % 1000 % 10:Nat):Int) w2] c2),(e,oe),(it,oi),(S,LCg.lst zs),(D₂,LCg.lst [.int (p0:Int) u1,.int (q0:Int) u2,.int (r0:Int) u3]),(D,LCg.lst ys),(L+1+1,oP2),(L+1,o')]++(mv2++as),rfl,Nat.zero_le _,G',frStays F6 hk9,newsStays N6 hk9,off',rfl,rfl,?_,rfl⟩
                  rw [List.take_add_one,hgg,List.map_append]
                  rfl
                case cdone =>
                  clear F5 N5 G5
                  (intro ax us D10 bs;intro _;intro h gs dr tk hτ G' zo97;(first | refine exE zo97 ?_ | refine aE zo97 ?_);clear zo97;intro zo98 zz;subst zo98;k_extra "e";intro zo99 zz;subst zo99;k_extra "e";intro hbs zo100;subst zo100;intro F' N' off')
                  (replace hbs:=hbs;rw [hM.len,List.take_length] at hbs)
                  obtain rfl : bs=(meansB (p0:Int) q0 r0 (figs (N / 1000)) ((N % 1000 / 100:Nat):Int) ((N % 1000 / 10 % 10:Nat):Int) ((N % 1000 % 10:Nat):Int)).map Value.bool:=by
                    rw [hbs,← lp_law N hN p0 q0 r0 hp0 hq0 hr0,List.map_map]
                    rfl
                  clear hbs off'
                  (replace N':=N';simp only [List.cons_append,List.nil_append] at N')
                  k_steps
                  show wpAny _ _ _ _ _ _
                  (rename Fr _ _ _ _=>F6);(rename News _ _ _ _=>N6)
                  refine' (lp_means N hN p0 q0 r0 fo nm D₂ fvs hI2 _ _ _ _ _ _) ?zB ?zF ?zX ?zT ?z1 ?z2 ?z3 ?z4 ?zd ?zu ?zp ?_
                  k_extra "r43"
                  case zp=>exact ⟨News.isList N6 (by k_mem),News.isList (items:=#[_,_,_]) N6 (by k_mem),News.isList (items:=#[_,_,_]) N6 (by k_mem)⟩
                  intro v9 h9 tk9 hk9 hz9 hp9
                  ((first | refine exE hp9 ?_ | refine aE hp9 ?_);clear hp9;intro a8;intro zz;k_extra "e";intro o8;intro zz;k_extra "e";intro zo30;intro zz;subst zo30;k_extra "e";intro hn8;intro zz;k_extra "e";intro hg8;intro zo31;subst zo31)
                  have F7:=frStays F6 hk9
                  have N7:=newsNew F6 N6 hk9 hn8 hg8
                  clear F6 N6 hn8 hg8 hk9 hz9
                  (try dsimp only)
                  (repeat walk_at "x_out")
                  refine ne_bools N7 (.tail _ (.head _)) (.head _) (by ke_room) ?_
                  k_steps
                  (rename Fr _ _ _ _=>F8);(rename News _ _ _ _=>N8)
                  have hap8:=apart_off (rest:=[(e,oe),(it,oi)]) (mv:=mv2) N8 (fun p hp=>⟨tabs_like hT2 p hp,by repeat (first | exact List.mem_append_left _ hp | apply List.Mem.tail)⟩) (List.forall_mem_cons.mpr ⟨⟨hap1,by k_mem⟩,List.forall_mem_cons.mpr ⟨⟨hap2,by k_mem⟩,List.forall_mem_nil _⟩⟩)
                  refine ⟨_,_,_,_,_,[(S,LCg.lst zs),(D₂,LCg.lst [.int (p0:Int) u1,.int (q0:Int) u2,.int (r0:Int) u3]),(D,LCg.lst ys),(L+1+1,oP2),(L+1,o')]++(mv2++as),rfl,Nat.zero_le _,G',F8,?zn,?zo,_,mv2,oP2,_,hT2,dP2,by walk_at "k_canon",rfl⟩
                  case zn=>exact fun p hp=>N8 p (.tail _ (.tail _ (.tail _ (.tail _ hp))))
                  case zo =>
                    intro p hp
                    (refine or2E (List.mem_append.mp hp) ?alo5_0 ?alo5_1;(case' alo5_1=>(intro hp));(case' alo5_0=>(intro hp)))
                    · (replace hp := hp; simp only [List.mem_cons, List.not_mem_nil, or_false] at hp)
                      (refine or5E hp ?alo6_0 ?alo6_1 ?alo6_2 ?alo6_3 ?alo6_4;(case' alo6_4=>(clear hp;intro zo7;subst zo7));(case' alo6_3=>(clear hp;intro zo8;subst zo8));(case' alo6_2=>(clear hp;intro zo9;subst zo9));(case' alo6_1=>(clear hp;intro zo10;subst zo10));(case' alo6_0=>(clear hp;intro zo11;subst zo11)))
                      · exact hofF.out _ (.head _)
                      · exact hofF.out _ (.tail _ (.head _))
                      · exact hofF.out _ (.tail _ (.tail _ (.head _)))
                      · exact hofF.out (L+1+1,oP) (.tail _ (.tail _ (.tail _ (.head _))))
                      · exact hofF.out _ (.tail _ (.tail _ (.tail _ (.tail _ (.head _)))))
                    · (refine or2E (List.mem_append.mp hp) ?alo12_0 ?alo12_1; (case' alo12_1 => (intro hp)); (case' alo12_0 => (intro hp)))
                      · exact ⟨hap8 (e,oe) (.head _) p hp,hap8 (it,oi) (.tail _ (.head _)) p hp⟩
                      · exact hofF.out p (List.mem_append_right _ (List.mem_append_right _ hp))
              case done =>
                (repeat (rename tAt _ _=>hz;clear hz))
                clear F5 N5 hT0
                (intro m₁ news₁ h gs dr tk hτ G' zo101;(first | refine exE zo101 ?_ | refine aE zo101 ?_);clear zo101;intro gm zz;k_extra "e";intro mv zz;k_extra "e";intro oP zz;k_extra "e";intro vP zz;k_extra "e";intro hT zz;k_extra "e";intro dP zz;k_extra "e";intro zo102 zo103;subst zo102;subst zo103;intro F' N')
                (replace N':=N';simp only [List.cons_append,List.nil_append] at N')
                k_steps
                (try refine CutT.next (by assumption) ?_)
                unfold TokQ
                intro _
                (try dsimp only)
                k_steps
                (rename Fr _ _ _ _=>F8);(rename News _ _ _ _=>N8)
                exact hQ _ ⟨_,_,_,_,rfl,G',F8.keep,tabs_grown (pre:=[(S,LCg.lst zs),(D₂,LCg.lst [.int (p0:Int) u1,.int (q0:Int) u2,.int (r0:Int) u3]),(D,LCg.lst ys),(L+1+1,oP),(L+1,o')]) (mv:=mv) (as:=as) hT N8⟩)
end Mine
theorem PySem.Challenge.cw_in0210_01_holds : PySem.Challenge.rw_in0210_01.Holds := by
  exact Mine.lw
