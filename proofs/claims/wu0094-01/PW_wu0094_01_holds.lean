import PyProof.Rows.All
import Wide.All
import OpenK.AllK
import Wide.FinOn
import Lean
import PySem.Challenge.RW_wu0094_01
set_option rowWalk.seconds 0
set_option genInjectivity false
section
open PySem PySem.W PyProof.Rows
set_option Elab.async false
set_option maxRecDepth 100000
set_option maxHeartbeats 8000000
namespace Mine
noncomputable abbrev hE (P : Params) (n : String) (t : Nat) : DictEntry := { hash := PyData.keyHash P (Str.ofString n), key := Value.str (Str.ofString n) t, val := Value.none }
noncomputable def sg (l : List (List Nat × String)) : Str := ⟨(l.flatMap fun p => p.1 ++ (Str.ofString p.2).cps.toList).toArray⟩
noncomputable def h0_0 (P : Params) : Obj := { cls := Value.type "dict", data := Data.dict #[{ hE P "__name__" 1 with val := Value.str (Str.ofString "builtins") 160 }, { hE P "__doc__" 2 with val := Value.builtin "builtins.__doc__:str#\x6fpaque" }, { hE P "__package__" 3 with val := Value.builtin "builtins.__package__:str#\x6fpaque" }, { hE P "__loader__" 4 with val := Value.builtin "builtins.__loader__:shared#\x6fpaque" }, { hE P "__spec__" 5 with val := Value.builtin "builtins.__spec__#\x6fpaque" }, { hE P "__build_class__" 6 with val := Value.builtin "__build_class__" }, { hE P "__import__" 7 with val := Value.builtin "__import__" }, { hE P "abs" 8 with val := Value.builtin "abs" }, { hE P "all" 9 with val := Value.builtin "all" }, { hE P "any" 10 with val := Value.builtin "any" }, { hE P "ascii" 11 with val := Value.builtin "ascii" }, { hE P "bin" 12 with val := Value.builtin "bin" }, { hE P "breakpoint" 13 with val := Value.builtin "breakpoint" }, { hE P "callable" 14 with val := Value.builtin "callable" }, { hE P "chr" 15 with val := Value.builtin "chr" }, { hE P "compile" 16 with val := Value.builtin "compile" }, { hE P "delattr" 17 with val := Value.builtin "delattr" }, { hE P "dir" 18 with val := Value.builtin "dir" }, { hE P "divmod" 19 with val := Value.builtin "divmod" }, { hE P "eval" 20 with val := Value.builtin "eval" }, { hE P "exec" 21 with val := Value.builtin "exec" }, { hE P "format" 22 with val := Value.builtin "format" }, { hE P "getattr" 23 with val := Value.builtin "getattr" }, { hE P "globals" 24 with val := Value.builtin "globals" }, { hE P "hasattr" 25 with val := Value.builtin "hasattr" }, { hE P "hash" 26 with val := Value.builtin "hash" }, { hE P "hex" 27 with val := Value.builtin "hex" }, { hE P "id" 28 with val := Value.builtin "id" }, { hE P "input" 29 with val := Value.builtin "input" }, { hE P "isinstance" 30 with val := Value.builtin "isinstance" }, { hE P "issubclass" 31 with val := Value.builtin "issubclass" }, { hE P "iter" 32 with val := Value.builtin "iter" }, { hE P "aiter" 33 with val := Value.builtin "aiter" }, { hE P "len" 34 with val := Value.builtin "len" }, { hE P "locals" 35 with val := Value.builtin "locals" }, { hE P "max" 36 with val := Value.builtin "max" }, { hE P "min" 37 with val := Value.builtin "min" }, { hE P "next" 38 with val := Value.builtin "next" }, { hE P "anext" 39 with val := Value.builtin "anext" }, { hE P "oct" 40 with val := Value.builtin "oct" }, { hE P "ord" 41 with val := Value.builtin "ord" }, { hE P "pow" 42 with val := Value.builtin "pow" }, { hE P "print" 43 with val := Value.builtin "print" }, { hE P "repr" 44 with val := Value.builtin "repr" }, { hE P "round" 45 with val := Value.builtin "round" }, { hE P "setattr" 46 with val := Value.builtin "setattr" }, { hE P "sorted" 47 with val := Value.builtin "sorted" }, { hE P "sum" 48 with val := Value.builtin "sum" }, { hE P "vars" 49 with val := Value.builtin "vars" }, { hE P "None" 50 with val := Value.none }, { hE P "Ellipsis" 51 with val := Value.ellipsis }, { hE P "NotImplemented" 52 with val := Value.notImplemented }, { hE P "False" 53 with val := Value.bool false }, { hE P "True" 54 with val := Value.bool true }, { hE P "bool" 55 with val := Value.type "bool" }, { hE P "memoryview" 56 with val := Value.type "memoryview" }, { hE P "bytearray" 57 with val := Value.type "bytearray" }, { hE P "bytes" 58 with val := Value.type "bytes" }, { hE P "classmethod" 59 with val := Value.type "classmethod" }, { hE P "complex" 60 with val := Value.type "complex" }, { hE P "dict" 61 with val := Value.type "dict" }, { hE P "enumerate" 62 with val := Value.type "enumerate" }, { hE P "filter" 63 with val := Value.type "filter" }, { hE P "float" 64 with val := Value.type "float" }, { hE P "frozenset" 65 with val := Value.type "frozenset" }, { hE P "property" 66 with val := Value.type "property" }, { hE P "int" 67 with val := Value.type "int" }, { hE P "list" 68 with val := Value.type "list" }, { hE P "map" 69 with val := Value.type "map" }, { hE P "object" 70 with val := Value.type "object" }, { hE P "range" 71 with val := Value.type "range" }, { hE P "reversed" 72 with val := Value.type "reversed" }, { hE P "set" 73 with val := Value.type "set" }, { hE P "slice" 74 with val := Value.type "slice" }, { hE P "staticmethod" 75 with val := Value.type "staticmethod" }, { hE P "str" 76 with val := Value.type "str" }, { hE P "super" 77 with val := Value.type "super" }, { hE P "tuple" 78 with val := Value.type "tuple" }, { hE P "type" 79 with val := Value.type "type" }, { hE P "zip" 80 with val := Value.type "zip" }, { hE P "__debug__" 81 with val := Value.bool true }, { hE P "BaseException" 82 with val := Value.type "BaseException" }, { hE P "BaseExceptionGroup" 83 with val := Value.type "BaseExceptionGroup" }, { hE P "Exception" 84 with val := Value.type "Exception" }, { hE P "GeneratorExit" 85 with val := Value.type "GeneratorExit" }, { hE P "KeyboardInterrupt" 86 with val := Value.type "KeyboardInterrupt" }, { hE P "SystemExit" 87 with val := Value.type "SystemExit" }, { hE P "ArithmeticError" 88 with val := Value.type "ArithmeticError" }, { hE P "AssertionError" 89 with val := Value.type "AssertionError" }, { hE P "AttributeError" 90 with val := Value.type "AttributeError" }, { hE P "BufferError" 91 with val := Value.type "BufferError" }, { hE P "EOFError" 92 with val := Value.type "EOFError" }, { hE P "ImportError" 93 with val := Value.type "ImportError" }, { hE P "LookupError" 94 with val := Value.type "LookupError" }, { hE P "MemoryError" 95 with val := Value.type "MemoryError" }, { hE P "NameError" 96 with val := Value.type "NameError" }, { hE P "OSError" 97 with val := Value.type "OSError" }, { hE P "ReferenceError" 98 with val := Value.type "ReferenceError" }, { hE P "RuntimeError" 99 with val := Value.type "RuntimeError" }, { hE P "StopAsyncIteration" 100 with val := Value.type "StopAsyncIteration" }, { hE P "StopIteration" 101 with val := Value.type "StopIteration" }, { hE P "SyntaxError" 102 with val := Value.type "SyntaxError" }, { hE P "SystemError" 103 with val := Value.type "SystemError" }, { hE P "TypeError" 104 with val := Value.type "TypeError" }, { hE P "ValueError" 105 with val := Value.type "ValueError" }, { hE P "Warning" 106 with val := Value.type "Warning" }, { hE P "FloatingPointError" 107 with val := Value.type "FloatingPointError" }, { hE P "OverflowError" 108 with val := Value.type "OverflowError" }, { hE P "ZeroDivisionError" 109 with val := Value.type "ZeroDivisionError" }, { hE P "BytesWarning" 110 with val := Value.type "BytesWarning" }, { hE P "DeprecationWarning" 111 with val := Value.type "DeprecationWarning" }, { hE P "EncodingWarning" 112 with val := Value.type "EncodingWarning" }, { hE P "FutureWarning" 113 with val := Value.type "FutureWarning" }, { hE P "ImportWarning" 114 with val := Value.type "ImportWarning" }, { hE P "PendingDeprecationWarning" 115 with val := Value.type "PendingDeprecationWarning" }, { hE P "ResourceWarning" 116 with val := Value.type "ResourceWarning" }, { hE P "RuntimeWarning" 117 with val := Value.type "RuntimeWarning" }, { hE P "SyntaxWarning" 118 with val := Value.type "SyntaxWarning" }, { hE P "UnicodeWarning" 119 with val := Value.type "UnicodeWarning" }, { hE P "UserWarning" 120 with val := Value.type "UserWarning" }, { hE P "BlockingIOError" 121 with val := Value.type "BlockingIOError" }, { hE P "ChildProcessError" 122 with val := Value.type "ChildProcessError" }, { hE P "ConnectionError" 123 with val := Value.type "ConnectionError" }, { hE P "FileExistsError" 124 with val := Value.type "FileExistsError" }, { hE P "FileNotFoundError" 125 with val := Value.type "FileNotFoundError" }, { hE P "InterruptedError" 126 with val := Value.type "InterruptedError" }, { hE P "IsADirectoryError" 127 with val := Value.type "IsADirectoryError" }, { hE P "NotADirectoryError" 128 with val := Value.type "NotADirectoryError" }, { hE P "PermissionError" 129 with val := Value.type "PermissionError" }, { hE P "ProcessLookupError" 130 with val := Value.type "ProcessLookupError" }, { hE P "TimeoutError" 131 with val := Value.type "TimeoutError" }, { hE P "IndentationError" 132 with val := Value.type "IndentationError" }, { hE P "_IncompleteInputError" 133 with val := Value.type "_IncompleteInputError" }, { hE P "IndexError" 134 with val := Value.type "IndexError" }, { hE P "KeyError" 135 with val := Value.type "KeyError" }, { hE P "ModuleNotFoundError" 136 with val := Value.type "ModuleNotFoundError" }, { hE P "NotImplementedError" 137 with val := Value.type "NotImplementedError" }, { hE P "PythonFinalizationError" 138 with val := Value.type "PythonFinalizationError" }, { hE P "RecursionError" 139 with val := Value.type "RecursionError" }, { hE P "UnboundLocalError" 140 with val := Value.type "UnboundLocalError" }, { hE P "UnicodeError" 141 with val := Value.type "UnicodeError" }, { hE P "BrokenPipeError" 142 with val := Value.type "BrokenPipeError" }, { hE P "ConnectionAbortedError" 143 with val := Value.type "ConnectionAbortedError" }, { hE P "ConnectionRefusedError" 144 with val := Value.type "ConnectionRefusedError" }, { hE P "ConnectionResetError" 145 with val := Value.type "ConnectionResetError" }, { hE P "TabError" 146 with val := Value.type "TabError" }, { hE P "UnicodeDecodeError" 147 with val := Value.type "UnicodeDecodeError" }, { hE P "UnicodeEncodeError" 148 with val := Value.type "UnicodeEncodeError" }, { hE P "UnicodeTranslateError" 149 with val := Value.type "UnicodeTranslateError" }, { hE P "ExceptionGroup" 150 with val := Value.type "ExceptionGroup" }, { hE P "EnvironmentError" 151 with val := Value.type "OSError" }, { hE P "IOError" 152 with val := Value.type "OSError" }, { hE P "open" 153 with val := Value.builtin "open" }, { hE P "quit" 154 with val := Value.builtin "builtins.quit#\x6fpaque" }, { hE P "exit" 155 with val := Value.builtin "builtins.exit#\x6fpaque" }, { hE P "copyright" 156 with val := Value.builtin "builtins.copyright#\x6fpaque" }, { hE P "credits" 157 with val := Value.builtin "builtins.credits#\x6fpaque" }, { hE P "license" 158 with val := Value.builtin "builtins.license#\x6fpaque" }, { hE P "help" 159 with val := Value.builtin "builtins.help#\x6fpaque" }] 159 }
noncomputable def h0_1 (P : Params) : Obj := { cls := Value.type "dict", data := Data.dict #[{ hE P "builtins" 162 with val := Value.ref 4 }, { hE P "__main__" 163 with val := Value.ref 5 }, { hE P "_sre" 244 with val := Value.ref 12 }] 3 }
noncomputable def h0_2 (P : Params) : Obj := { cls := Value.none, data := Data.dict #[{ hE P "\x69mport.loaded._sre" 183 with val := Value.bool true }, { hE P "class._frozen_importlib.BuiltinImporter" 185 with val := Value.ref 14 }, { hE P "watched.\x69mport" 206 with val := Value.ref 18 }, { hE P "class._frozen_importlib.ModuleSpec" 216 with val := Value.ref 22 }, { hE P "sys.modules.booked-epoch" 245 with val := Value.int 3 0 }, { hE P "\x69mport.later-laid._sre" 270 with val := Value.bool true }, { hE P "watched.library" 272 with val := Value.ref 27 }, { hE P "watched.library-objects" 0 with val := Value.str (Str.ofString "\x0c") 0 }, { hE P "watched.library-deep._sre" 273 with val := Value.str (Str.ofString "\x04\x00\x00\x0b\x04\x00\x00\x0b\x04\x00\x00\x03\x04\x00\x00\x0b\x08\x04dict\x02") 0 }] 9 }
noncomputable def h0_3 (P : Params) : Obj := { cls := Value.type "dict", data := Data.dict #[{ hE P "__name__" 165 with val := Value.str (Str.ofString "__main__") 164 }, { hE P "__doc__" 166 with val := Value.none }, { hE P "__package__" 167 with val := Value.none }, { hE P "__loader__" 168 with val := Value.builtin "__main__.__loader__#\x6fpaque" }, { hE P "__spec__" 169 with val := Value.none }, { hE P "__annotations__" 170 with val := Value.ref 6 }, { hE P "__builtins__" 171 with val := Value.ref 4 }, { hE P "__file__" 173 with val := Value.str (Str.ofString "/claim/cut.py") 172 }, { hE P "__cached__" 174 with val := Value.none }, { hE P "_sre" 275 with val := Value.ref 12 }] 10 }
noncomputable def h0_4 (_P : Params) : Obj := { cls := Value.type "module", dict := some 0 }
noncomputable def h0_5 (_P : Params) : Obj := { cls := Value.type "module", dict := some 3 }
noncomputable def h0_6 (_P : Params) : Obj := { cls := Value.type "dict", data := Data.dict #[] }
noncomputable def h0_7 (_P : Params) : Obj := { cls := Value.type "tuple", data := Data.seq #[] }
noncomputable def h0_8 (_P : Params) : Obj := { cls := Value.none, data := Data.fields #[] }
noncomputable def h0_9 (_P : Params) : Obj := { cls := Value.type "code", data := Data.fields #[Value.str (Str.ofString "<module>") 176, Value.str (Str.ofString "<module>") 177, Value.str (Str.ofString "/claim/cut.py") 178, Value.int 1 0, Value.int 0 0, Value.int 0 0, Value.int 0 0, Value.int 0 0, Value.ref 7, Value.bool false, Value.int 175 0, Value.ref 8, Value.none, Value.none, Value.none, Value.none, Value.int 179 0, Value.int 1 0, Value.str (Str.ofString "/claim/cut.py") 180] }
noncomputable def h0_10 (_P : Params) : Obj := { cls := Value.type "frame", slots := #[some (Value.ref 9), some (Value.ref 3), some (Value.ref 3), none, some (Value.str (Str.ofString "__main__") 164), none, some (Value.ref 0)] }
noncomputable def h0_11 (P : Params) : Obj := { cls := Value.type "dict", data := Data.dict #[{ hE P "__name__" 247 with val := Value.str (Str.ofString "_sre") 246 }, { hE P "__doc__" 248 with val := Value.none }, { hE P "__package__" 250 with val := Value.str (Str.ofString "") 249 }, { hE P "__loader__" 251 with val := Value.builtin "off-the-table:_sre.__loader__:shared#\x6fpaque" }, { hE P "__spec__" 252 with val := Value.builtin "off-the-table:_sre.__spec__:shared#\x6fpaque" }, { hE P "compile" 253 with val := Value.builtin "_sre.compile" }, { hE P "template" 254 with val := Value.builtin "off-the-table:_sre.template:shared#\x6fpaque" }, { hE P "getcodesize" 255 with val := Value.builtin "off-the-table:_sre.getcodesize:shared#\x6fpaque" }, { hE P "ascii_iscased" 256 with val := Value.builtin "off-the-table:_sre.ascii_iscased:shared#\x6fpaque" }, { hE P "unicode_iscased" 257 with val := Value.builtin "off-the-table:_sre.unicode_iscased:shared#\x6fpaque" }, { hE P "ascii_tolower" 258 with val := Value.builtin "off-the-table:_sre.ascii_tolower:shared#\x6fpaque" }, { hE P "unicode_tolower" 259 with val := Value.builtin "off-the-table:_sre.unicode_tolower:shared#\x6fpaque" }, { hE P "MAGIC" 261 with val := Value.int 20230612 260 }, { hE P "CODESIZE" 263 with val := Value.int 4 262 }, { hE P "MAXREPEAT" 265 with val := Value.int 4294967295 264 }, { hE P "MAXGROUPS" 267 with val := Value.int 1073741823 266 }, { hE P "copyright" 269 with val := Value.str (Str.ofString " SRE 2.2.2 Copyright (c) 1997-2002 by Secret Labs AB ") 268 }] 17 }
noncomputable def h0_12 (_P : Params) : Obj := { cls := Value.type "module", dict := some 11 }
noncomputable def h0_13 (P : Params) : Obj := { cls := Value.type "dict", data := Data.dict #[{ hE P "__module__" 189 with val := Value.str (Str.ofString "_frozen_importlib") 186 }, { hE P "__firstlineno__" 190 with val := Value.int 971 187 }, { hE P "__doc__" 191 with val := Value.builtin "_frozen_importlib.BuiltinImporter.__doc__:str#\x6fpaque" }, { hE P "_ORIGIN" 192 with val := Value.str (Str.ofString "built-in") 188 }, { hE P "find_spec" 193 with val := Value.builtin "_frozen_importlib.BuiltinImporter.find_spec#\x6fpaque" }, { hE P "create_module" 194 with val := Value.builtin "_frozen_importlib.BuiltinImporter.create_module#\x6fpaque" }, { hE P "exec_module" 195 with val := Value.builtin "_frozen_importlib.BuiltinImporter.exec_module#\x6fpaque" }, { hE P "get_code" 196 with val := Value.builtin "_frozen_importlib.BuiltinImporter.get_code#\x6fpaque" }, { hE P "get_source" 197 with val := Value.builtin "_frozen_importlib.BuiltinImporter.get_source#\x6fpaque" }, { hE P "is_package" 198 with val := Value.builtin "_frozen_importlib.BuiltinImporter.is_package#\x6fpaque" }, { hE P "load_module" 199 with val := Value.builtin "_frozen_importlib.BuiltinImporter.load_module#\x6fpaque" }, { hE P "__static_attributes__" 200 with val := Value.ref 15 }, { hE P "__dict__" 202 with val := Value.ref 16 }, { hE P "__weakref__" 204 with val := Value.ref 17 }] 14 }
noncomputable def h0_14 (_P : Params) : Obj := { cls := Value.type "type", data := Data.cls { name := Str.ofString "BuiltinImporter", bases := [Value.type "object"], mro := [Value.ref 14, Value.type "object"], ns := 13, qualname := Str.ofString "BuiltinImporter" } }
noncomputable def h0_15 (_P : Params) : Obj := { cls := Value.type "tuple", data := Data.seq #[] }
noncomputable def h0_16 (_P : Params) : Obj := { cls := Value.type "getset_descriptor", data := Data.fields #[Value.str (Str.ofString "__dict__") 201, Value.ref 14, Value.builtin "function.__dict__", Value.builtin "function.__dict__#set"] }
noncomputable def h0_17 (_P : Params) : Obj := { cls := Value.type "getset_descriptor", data := Data.fields #[Value.str (Str.ofString "__weakref__") 203, Value.ref 14, Value.builtin "ExceptionGroup.__weakref__", Value.none] }
noncomputable def h0_18 (_P : Params) : Obj := { cls := Value.none, data := Data.seq #[Value.int 13 0, Value.str (sg [([6, 189, 10], "__module__"), ([6, 186, 17], "_frozen_importlib"), ([6, 190, 15], "__firstlineno__"), ([4, 187, 0, 971, 6, 191, 7], "__doc__"), ([9], "4_frozen_importlib.BuiltinImporter.__doc__:str#\x6fpaque"), ([6, 192, 7], "_ORIGIN"), ([6, 188, 8], "built-in"), ([6, 193, 9], "find_spec"), ([9], "2_frozen_importlib.BuiltinImporter.find_spec#\x6fpaque"), ([6, 194, 13], "create_module"), ([9], "6_frozen_importlib.BuiltinImporter.create_module#\x6fpaque"), ([6, 195, 11], "exec_module"), ([9], "4_frozen_importlib.BuiltinImporter.exec_module#\x6fpaque"), ([6, 196, 8], "get_code"), ([9], "1_frozen_importlib.BuiltinImporter.get_code#\x6fpaque"), ([6, 197, 10], "get_source"), ([9], "3_frozen_importlib.BuiltinImporter.get_source#\x6fpaque"), ([6, 198, 10], "is_package"), ([9], "3_frozen_importlib.BuiltinImporter.is_package#\x6fpaque"), ([6, 199, 11], "load_module"), ([9], "4_frozen_importlib.BuiltinImporter.load_module#\x6fpaque"), ([6, 200, 21], "__static_attributes__"), ([4, 0, 0, 15, 6, 202, 8], "__dict__"), ([4, 0, 0, 16, 6, 204, 11], "__weakref__"), ([4, 0, 0, 17], "")]) 0, Value.bool true, Value.bool true, Value.str (Str.ofString "") 205, Value.int 21 0, Value.str (sg [([6, 227, 10], "__module__"), ([6, 217, 17], "_frozen_importlib"), ([6, 228, 15], "__firstlineno__"), ([4, 218, 0, 562, 6, 229, 7], "__doc__"), ([9], "/_frozen_importlib.ModuleSpec.__doc__:str#\x6fpaque"), ([6, 230, 8], "__init__"), ([9], ",_frozen_importlib.ModuleSpec.__init__#\x6fpaque"), ([6, 231, 8], "__repr__"), ([9], ",_frozen_importlib.ModuleSpec.__repr__#\x6fpaque"), ([6, 232, 6], "__eq__"), ([9], "*_frozen_importlib.ModuleSpec.__eq__#\x6fpaque"), ([6, 233, 6], "cached"), ([9], "*_frozen_importlib.ModuleSpec.cached#\x6fpaque"), ([6, 234, 6], "parent"), ([9], "*_frozen_importlib.ModuleSpec.parent#\x6fpaque"), ([6, 235, 12], "has_location"), ([9], "0_frozen_importlib.ModuleSpec.has_location#\x6fpaque"), ([6, 236, 21], "__static_attributes__"), ([4, 0, 0, 23, 6, 238, 8], "__dict__"), ([4, 0, 0, 24, 6, 240, 11], "__weakref__"), ([4, 0, 0, 25, 6, 241, 8], "__hash__"), ([0], "")]) 0, Value.bool true, Value.bool true, Value.str (Str.ofString "") 242] 1 }
noncomputable def h0_19 (_P : Params) : Obj := { cls := Value.type "list", data := Data.seq #[] }
noncomputable def h0_20 (P : Params) : Obj := { cls := Value.type "dict", data := Data.dict #[{ hE P "name" 208 with val := Value.str (Str.ofString "_sre") 207 }, { hE P "loader" 209 with val := Value.ref 14 }, { hE P "origin" 210 with val := Value.str (Str.ofString "built-in") 184 }, { hE P "loader_state" 211 with val := Value.none }, { hE P "submodule_search_locations" 212 with val := Value.none }, { hE P "_uninitialized_submodules" 213 with val := Value.ref 19 }, { hE P "_set_fileattr" 214 with val := Value.bool false }, { hE P "_cached" 215 with val := Value.none }, { hE P "_initializing" 243 with val := Value.bool false }] 9 }
noncomputable def h0_21 (P : Params) : Obj := { cls := Value.type "dict", data := Data.dict #[{ hE P "__module__" 227 with val := Value.str (Str.ofString "_frozen_importlib") 217 }, { hE P "__firstlineno__" 228 with val := Value.int 562 218 }, { hE P "__doc__" 229 with val := Value.builtin "_frozen_importlib.ModuleSpec.__doc__:str#\x6fpaque" }, { hE P "__init__" 230 with val := Value.builtin "_frozen_importlib.ModuleSpec.__init__#\x6fpaque" }, { hE P "__repr__" 231 with val := Value.builtin "_frozen_importlib.ModuleSpec.__repr__#\x6fpaque" }, { hE P "__eq__" 232 with val := Value.builtin "_frozen_importlib.ModuleSpec.__eq__#\x6fpaque" }, { hE P "cached" 233 with val := Value.builtin "_frozen_importlib.ModuleSpec.cached#\x6fpaque" }, { hE P "parent" 234 with val := Value.builtin "_frozen_importlib.ModuleSpec.parent#\x6fpaque" }, { hE P "has_location" 235 with val := Value.builtin "_frozen_importlib.ModuleSpec.has_location#\x6fpaque" }, { hE P "__static_attributes__" 236 with val := Value.ref 23 }, { hE P "__dict__" 238 with val := Value.ref 24 }, { hE P "__weakref__" 240 with val := Value.ref 25 }, { hE P "__hash__" 241 with val := Value.none }] 13 }
noncomputable def h0_22 (_P : Params) : Obj := { cls := Value.type "type", data := Data.cls { name := Str.ofString "ModuleSpec", bases := [Value.type "object"], mro := [Value.ref 22, Value.type "object"], ns := 21, qualname := Str.ofString "ModuleSpec" } }
noncomputable def h0_23 (_P : Params) : Obj := { cls := Value.type "tuple", data := Data.seq #[Value.str (Str.ofString "_cached") 219, Value.str (Str.ofString "_set_fileattr") 220, Value.str (Str.ofString "_uninitialized_submodules") 221, Value.str (Str.ofString "loader") 222, Value.str (Str.ofString "loader_state") 223, Value.str (Str.ofString "name") 224, Value.str (Str.ofString "origin") 225, Value.str (Str.ofString "submodule_search_locations") 226] }
noncomputable def h0_24 (_P : Params) : Obj := { cls := Value.type "getset_descriptor", data := Data.fields #[Value.str (Str.ofString "__dict__") 237, Value.ref 22, Value.builtin "function.__dict__", Value.builtin "function.__dict__#set"] }
noncomputable def h0_25 (_P : Params) : Obj := { cls := Value.type "getset_descriptor", data := Data.fields #[Value.str (Str.ofString "__weakref__") 239, Value.ref 22, Value.builtin "ExceptionGroup.__weakref__", Value.none] }
noncomputable def h0_26 (_P : Params) : Obj := { cls := Value.ref 22, dict := some 20 }
noncomputable def h0_27 (_P : Params) : Obj := { cls := Value.none, data := Data.seq #[Value.int 11 0, Value.str (sg [([6, 247, 8], "__name__"), ([6, 246, 4], "_sre"), ([6, 248, 7], "__doc__"), ([0, 6, 250, 11], "__package__"), ([6, 249, 0, 6, 251, 10], "__loader__"), ([4, 0, 0, 14, 6, 252, 8], "__spec__"), ([4, 0, 0, 26, 6, 253, 7], "compile"), ([9, 12], "_sre.compile"), ([6, 254, 8], "template"), ([9, 13], "_sre.template"), ([6, 255, 11], "getcodesize"), ([9, 16], "_sre.getcodesize"), ([6, 256, 13], "ascii_iscased"), ([9, 18], "_sre.ascii_iscased"), ([6, 257, 15], "unicode_iscased"), ([9, 20], "_sre.unicode_iscased"), ([6, 258, 13], "ascii_tolower"), ([9, 18], "_sre.ascii_tolower"), ([6, 259, 15], "unicode_tolower"), ([9, 20], "_sre.unicode_tolower"), ([6, 261, 5], "MAGIC"), ([4, 260, 0, 20230612, 6, 263, 8], "CODESIZE"), ([4, 262, 0, 4, 6, 265, 9], "MAXREPEAT"), ([4, 264, 0, 4294967295, 6, 267, 9], "MAXGROUPS"), ([4, 266, 0, 1073741823, 6, 269, 9], "copyright"), ([6, 268], "5 SRE 2.2.2 Copyright (c) 1997-2002 by Secret Labs AB ")]) 0, Value.bool true, Value.bool false, Value.str (Str.ofString "_sre") 271] }
noncomputable def h0 (P : Params) : Heap := { objs := #[h0_0 P, h0_1 P, h0_2 P, h0_3 P, h0_4 P, h0_5 P, h0_6 P, h0_7 P, h0_8 P, h0_9 P, h0_10 P, h0_11 P, h0_12 P, h0_13 P, h0_14 P, h0_15 P, h0_16 P, h0_17 P, h0_18 P, h0_19 P, h0_20 P, h0_21 P, h0_22 P, h0_23 P, h0_24 P, h0_25 P, h0_26 P, h0_27 P] }
noncomputable def dZ (P : Params) (n : String) (t : Nat) (v : Value) : DictEntry := { hash := PyData.keyHash P (Str.ofString n), key := Value.str (Str.ofString n) t, val := v }
noncomputable abbrev Pg : Program := PySem.Challenge.rw_wu0094_01.row.prog
noncomputable def he_11 (P : Params) : Obj := { cls := Value.type "dict", data := Data.dict #[dZ P "__name__" 247 (Value.str (Str.ofString "_sre") 246), dZ P "__doc__" 248 (Value.none), dZ P "__package__" 250 (Value.str (Str.ofString "") 249), dZ P "__loader__" 251 (Value.ref 14), dZ P "__spec__" 252 (Value.ref 26), dZ P "compile" 253 (Value.builtin "_sre.compile"), dZ P "template" 254 (Value.builtin "_sre.template"), dZ P "getcodesize" 255 (Value.builtin "_sre.getcodesize"), dZ P "ascii_iscased" 256 (Value.builtin "_sre.ascii_iscased"), dZ P "unicode_iscased" 257 (Value.builtin "_sre.unicode_iscased"), dZ P "ascii_tolower" 258 (Value.builtin "_sre.ascii_tolower"), dZ P "unicode_tolower" 259 (Value.builtin "_sre.unicode_tolower"), dZ P "MAGIC" 261 (Value.int 20230612 260), dZ P "CODESIZE" 263 (Value.int 4 262), dZ P "MAXREPEAT" 265 (Value.int 4294967295 264), dZ P "MAXGROUPS" 267 (Value.int 1073741823 266), dZ P "copyright" 269 (Value.str (Str.ofString " SRE 2.2.2 Copyright (c) 1997-2002 by Secret Labs AB ") 268)] 17 }
noncomputable def he (P : Params) : Heap := { objs := #[h0_0 P, h0_1 P, h0_2 P, h0_3 P, h0_4 P, h0_5 P, h0_6 P, h0_7 P, h0_8 P, h0_9 P, h0_10 P, he_11 P, h0_12 P, h0_13 P, h0_14 P, h0_15 P, h0_16 P, h0_17 P, h0_18 P, h0_19 P, h0_20 P, h0_21 P, h0_22 P, h0_23 P, h0_24 P, h0_25 P, h0_26 P, h0_27 P] }
theorem h_imp : ∀ w : World, importEnds treeTable (opening Pg) w 4844 (start (opening Pg)).1 (start (opening Pg)).2 = some ⟨he w.params, #[], {}, 276, (start (opening Pg)).1.os⟩ := by
  intro w
  kernel_rfl
theorem h_fen : ∀ w : World, (fun os => (fenceModules? Pg ⟨he w.params, #[], {}, 276, os⟩).map (fun s => (s.heap, s.gens, s.drawn, s.toks))) = fun _ => some (h0 w.params, #[], {}, 276) := by
  intro w
  kernel_rfl
theorem h0_open : ∀ w : World, (fencedOpening treeTable Pg w 4844).map (fun s => (s.heap, s.gens, s.drawn, s.toks)) = some (h0 w.params, #[], {}, 276) :=
  open_cut (M := 4844) h_imp rfl h_fen
theorem wsaid_row : PySem.Challenge.rw_wu0094_01.row.wellSaid = true := by
  unfold OpenRow.wellSaid OpenRow.partSaid looksOpen
  repeat' (with_reducible refine look_both ?_ ?_)
  all_goals decide +kernel
theorem wsaid : PySem.Challenge.rw_wu0094_01.wellSaid = true := by
  unfold OpenLaw.wellSaid
  repeat' (with_reducible refine look_both ?_ ?_)
  · exact wsaid_row
  all_goals decide +kernel
theorem left_of_open {p q : Program} {loose : List Str} {Xt : Shared → Bool} {α : Type} {Yf : Shared → α} {Ya : World → α} {N : Nat} {H₀ : Params → Heap} {gs₀ : Array GenState} {d₀ : Drawn} {k₀ : Nat}
    (o : ∀ w : World, (fencedOpening treeTable p w N).map (fun s => (s.heap, s.gens, s.drawn, s.toks)) = some (H₀ w.params, gs₀, d₀, k₀))
    (r : ∀ (w : World) (os : OsState), (topFrom treeTable p w N ⟨H₀ w.params, gs₀, d₀, k₀, os⟩).map (fun s => (openSeen q loose (importedModules p.main.body) Xt true s, Yf s)) = some (openGood q loose, Ya w)) : LeftO p q loose Xt Yf Ya N := fun w => by
  obtain ⟨⟨h, gs, d, k, os⟩, e, e'⟩ := Option.map_eq_some_iff.mp (o w)
  obtain ⟨rfl, rfl, rfl, rfl⟩ : h = H₀ w.params ∧ gs = gs₀ ∧ d = d₀ ∧ k = k₀ := by simpa using e'
  unfold openEnds
  rw [e]
  exact r w os
noncomputable def pl (i : Nat) : List Stmt := Pg.main.body.drop i
noncomputable def ml (i j : Nat) : List Stmt := match pl i with | .ClassDef _ _ _ b _ _ _ _ _ _ _ :: _ => b.drop j | _ => []
noncomputable def fo (l : List Stmt) (f : Arguments → List Stmt → Scope → Obj) : Obj := match l with | .FunctionDef _ a b _ _ _ sc _ _ _ :: _ => f a b sc | _ => { cls := .none }
noncomputable def kO0 (x0 : String) (x1 : Nat) (x2 : Nat) (x3 : Nat) (x4 : Int) (x5 : Nat) (x6 : Nat) (x7 : Int) (x8 : Nat) : Obj := { cls := Value.type "code", data := Data.fields #[Value.str (Str.ofString x0) x1, Value.str (Str.ofString x0) x2, Value.str (Str.ofString "/claim/cut.py") x3, Value.int x4 0, Value.int 0 0, Value.int 0 0, Value.int 0 0, Value.int 0 0, Value.ref x5, Value.bool false, Value.int 276 0, Value.ref x6, Value.none, Value.none, Value.none, Value.none, Value.int x7 0, Value.int x4 0, Value.str (Str.ofString "/claim/cut.py") x8] }
noncomputable def kO1 (x0 : Nat) (x1 : Nat) (x2 : String) (x3 : Nat) : Obj := { cls := Value.type "frame", slots := #[some (Value.ref x0), some (Value.ref 3), some (Value.ref x1), none, some (Value.str (Str.ofString x2) x3), none, some (Value.ref 0)] }
noncomputable def kO2 (x0 : String) (x1 : Nat) : Obj := { cls := Value.type "tuple", data := Data.seq #[Value.str (Str.ofString x0) x1] }
noncomputable def kO3 (l : List Stmt) (x0 : String) (x1 : String) : Obj := fo l fun a b sc => { cls := Value.none, data := Data.func { name := Str.ofString x0, qualname := Str.ofString x1, params := a, body := FuncBody.stmts b, scope := sc, globals := 0, closure := [], defaults := Value.none, kwdefaults := Value.none } }
noncomputable def kO4 (x0 : String) (x1 : Nat) (x2 : String) (x3 : Nat) (x4 : Nat) (x5 : Int) (x6 : Int) (x7 : Nat) (x8 : Nat) (x9 : Nat) (x10 : Nat) (x11 : Nat) (x12 : Int) (x13 : Nat) : Obj := { cls := Value.type "code", data := Data.fields #[Value.str (Str.ofString x0) x1, Value.str (Str.ofString x2) x3, Value.str (Str.ofString "/claim/cut.py") x4, Value.int x5 0, Value.int x6 0, Value.int 0 0, Value.int 0 0, Value.int 3 0, Value.ref x7, Value.bool true, Value.int 276 0, Value.ref x8, Value.none, Value.ref x9, Value.ref x10, Value.ref x11, Value.int x12 0, Value.int x5 0, Value.str (Str.ofString "/claim/cut.py") x13] }
noncomputable def kO5 (l : List Stmt) (x0 : String) (x1 : String) (x2 : String) (x3 : Nat) (x4 : Nat) : Obj := fo l fun a b sc => { cls := Value.type "function", data := Data.func { name := Str.ofString x0, qualname := Str.ofString x1, params := a, body := FuncBody.stmts b, scope := sc, globals := 3, closure := [], defaults := Value.none, kwdefaults := Value.none, pyModule := Value.str (Str.ofString x2) x3, code := Value.ref x4 } }
noncomputable def kO6 (x0 : String) (x1 : Nat) (x2 : Nat) (x3 : Nat) (x4 : Nat) (x5 : Nat) (x6 : Nat) (x7 : Nat) (x8 : Nat) (x9 : Nat) (x10 : Nat) (x11 : Nat) (x12 : Nat) (x13 : Nat) (x14 : Nat) (x15 : Nat) (x16 : Nat) (x17 : Nat) (x18 : Nat) (x19 : Nat) (x20 : Nat) (x21 : Nat) (x22 : Nat) : Obj := { cls := Value.type x0, data := Data.seq #[Value.int 14 x1, Value.int 4 x2, Value.int 0 x3, Value.int 1 x4, Value.int 4294967295 x5, Value.int 17 x6, Value.int 0 x7, Value.int 24 x8, Value.int 11 x9, Value.int 1 x10, Value.int 4294967295 x11, Value.int 13 x12, Value.int 6 x13, Value.int 16 x14, Value.int 32 x15, Value.int 16 x16, Value.int 9 x17, Value.int 0 x18, Value.int 1 x19, Value.int 17 x20, Value.int 1 x21, Value.int 1 x22] }
noncomputable def kO7 (x0 : Int) (x1 : Nat) (x2 : Int) (x3 : Nat) (x4 : Int) (x5 : Nat) (x6 : Int) (x7 : Nat) (x8 : Int) (x9 : Nat) (x10 : Int) (x11 : Nat) (x12 : Int) (x13 : Nat) (x14 : Int) (x15 : Nat) (x16 : Int) (x17 : Nat) : Obj := { cls := Value.none, data := Data.fields #[Value.int x0 0, Value.int 4 0, Value.ref x1, Value.int x2 0, Value.int 4 0, Value.ref x3, Value.int x4 0, Value.int 4 0, Value.ref x5, Value.int x6 0, Value.int 4 0, Value.ref x7, Value.int x8 0, Value.int 4 0, Value.ref x9, Value.int x10 0, Value.int 4 0, Value.ref x11, Value.int x12 0, Value.int 4 0, Value.ref x13, Value.int x14 0, Value.int 4 0, Value.ref x15, Value.int x16 0, Value.int 4 0, Value.ref x17] }
noncomputable def kO8 (x0 : String) (x1 : Nat) (x2 : String) (x3 : Nat) (x4 : String) (x5 : Nat) (x6 : String) (x7 : Nat) (x8 : String) (x9 : Nat) : Obj := { cls := Value.type "tuple", data := Data.seq #[Value.str (Str.ofString x0) x1, Value.str (Str.ofString x2) x3, Value.str (Str.ofString x4) x5, Value.str (Str.ofString x6) x7, Value.str (Str.ofString x8) x9] }
noncomputable def kO9 (x0 : Nat) (x1 : String) (x2 : Nat) : Obj := { cls := Value.type "tuple", data := Data.seq #[Value.str (Str.ofString "self") x0, Value.str (Str.ofString x1) x2] }
noncomputable def kO10 (x0 : String) (x1 : Nat) (x2 : String) (x3 : Nat) (x4 : String) (x5 : Nat) (x6 : String) (x7 : Nat) : Obj := { cls := Value.type "tuple", data := Data.seq #[Value.str (Str.ofString x0) x1, Value.str (Str.ofString x2) x3, Value.str (Str.ofString x4) x5, Value.str (Str.ofString x6) x7] }
noncomputable def kO11 (x0 : String) (x1 : Nat) (x2 : String) (x3 : Nat) (x4 : String) (x5 : Nat) (x6 : String) (x7 : Nat) (x8 : String) (x9 : Nat) (x10 : String) (x11 : Nat) : Obj := { cls := Value.type "tuple", data := Data.seq #[Value.str (Str.ofString x0) x1, Value.str (Str.ofString x2) x3, Value.str (Str.ofString x4) x5, Value.str (Str.ofString x6) x7, Value.str (Str.ofString x8) x9, Value.str (Str.ofString x10) x11] }
noncomputable def kO12 (x0 : String) (x1 : Nat) (x2 : Nat) (x3 : Nat) (x4 : Nat) : Obj := { cls := Value.type "type", data := Data.cls { name := Str.ofString x0, bases := [Value.type "object"], mro := [Value.ref x1, Value.type "object"], ns := x2, qualname := Str.ofString x0 }, slots := #[none, none, some (Value.str (Str.ofString x0) x3), some (Value.str (Str.ofString x0) x4), some (Value.builtin "object.__new__"), some (Value.bool true)] }
noncomputable def kO13 (x0 : Nat) (x1 : Nat) : Obj := { cls := Value.type "getset_descriptor", data := Data.fields #[Value.str (Str.ofString "__dict__") x0, Value.ref x1, Value.builtin "function.__dict__", Value.builtin "function.__dict__#set"] }
noncomputable def kO14 (x0 : Nat) (x1 : Nat) : Obj := { cls := Value.type "getset_descriptor", data := Data.fields #[Value.str (Str.ofString "__weakref__") x0, Value.ref x1, Value.builtin "ExceptionGroup.__weakref__", Value.none] }
noncomputable def kO15 (x0 : Nat) : Obj := { cls := Value.type "super", data := Data.fields #[Value.ref x0, Value.ref x0, Value.ref x0] }
noncomputable def kO16 (x0 : Nat) : Obj := { cls := Value.type "builtin_function_or_method", data := Data.fields #[Value.builtin "object.__init_subclass__", Value.ref x0] }
noncomputable def kO17 (x0 : String) : Obj := { cls := Value.type "tuple", data := Data.seq #[Value.type x0] }
noncomputable def kO18 (x0 : Nat) : Obj := { cls := Value.type "tuple", data := Data.seq #[Value.int 0 x0] }
noncomputable def kO19 (x0 : Nat) : Obj := { cls := Value.type "tuple", data := Data.seq #[Value.ref x0] }
noncomputable def kO20 (x0 : Nat) (x1 : String) (x2 : Nat) (x3 : String) (x4 : Nat) : Obj := { cls := Value.type "tuple", data := Data.seq #[Value.str (Str.ofString "self") x0, Value.str (Str.ofString x1) x2, Value.str (Str.ofString x3) x4] }
noncomputable def kO21 (l : List Stmt) (x0 : String) (x1 : String) (x2 : Nat) (x3 : Nat) : Obj := fo l fun a b sc => { cls := Value.type "function", data := Data.func { name := Str.ofString x0, qualname := Str.ofString x1, params := a, body := FuncBody.stmts b, scope := sc, globals := 3, closure := [], defaults := Value.ref x2, kwdefaults := Value.none, pyModule := Value.str (Str.ofString "cpy313.email.header") 289, code := Value.ref x3 } }
noncomputable def kO22 (l : List Stmt) (x0 : String) (x1 : String) (x2 : Nat) (x3 : Nat) : Obj := fo l fun a b sc => { cls := Value.type "function", data := Data.func { name := Str.ofString x0, qualname := Str.ofString x1, params := a, body := FuncBody.stmts b, scope := sc, globals := 3, closure := [(Str.ofString "__class__", 124)], defaults := Value.none, kwdefaults := Value.none, pyModule := Value.str (Str.ofString "cpy313.email.header") 289, code := Value.ref x2, closureTuple := Value.ref x3 } }
noncomputable def ha (P : Params) : Heap := { objs := #[h0_0 P, h0_1 P, h0_2 P, h0_3 P, h0_4 P, h0_5 P, h0_6 P, h0_7 P, h0_8 P, h0_9 P, h0_10 P, h0_11 P, h0_12 P, h0_13 P, h0_14 P, h0_15 P, h0_16 P, h0_17 P, h0_18 P, h0_19 P, h0_20 P, h0_21 P, h0_22 P, h0_23 P, h0_24 P, h0_25 P, h0_26 P, h0_27 P, { cls := Value.type "tuple", data := Data.seq #[] }, { cls := Value.none, data := Data.fields #[] }, kO0 "<module>" 277 278 279 1 28 29 280 281, kO1 30 3 "__main__" 164] }
noncomputable def hc5 (P : Params) : Heap := { objs := #[h0_0 P, h0_1 P, h0_2 P, { cls := Value.type "dict", data := Data.dict #[dZ P "__name__" 165 (Value.str (Str.ofString "cpy313.email.header") 289), dZ P "__doc__" 166 (Value.none), dZ P "__package__" 167 (Value.none), dZ P "__loader__" 168 (Value.builtin "__main__.__loader__#\x6fpaque"), dZ P "__spec__" 169 (Value.none), dZ P "__annotations__" 170 (Value.ref 6), dZ P "__builtins__" 171 (Value.ref 4), dZ P "__file__" 173 (Value.str (Str.ofString "/claim/cut.py") 172), dZ P "__cached__" 174 (Value.none), dZ P "_sre" 275 (Value.ref 12), dZ P "_wall" 288 (Value.ref 38), dZ P "_twin_re_1" 318 (Value.ref 43), dZ P "NL" 320 (Value.str (Str.ofString "\n") 319), dZ P "EMPTYSTRING" 322 (Value.str (Str.ofString "") 321), dZ P "_ValueFormatter" 432 (Value.ref 116)] 15 }, h0_4 P, h0_5 P, h0_6 P, h0_7 P, h0_8 P, h0_9 P, h0_10 P, h0_11 P, h0_12 P, h0_13 P, h0_14 P, h0_15 P, h0_16 P, h0_17 P, h0_18 P, h0_19 P, h0_20 P, h0_21 P, h0_22 P, h0_23 P, h0_24 P, h0_25 P, h0_26 P, h0_27 P, { cls := Value.type "tuple", data := Data.seq #[] }, { cls := Value.none, data := Data.fields #[Value.int 2 0, Value.int 0 0, Value.ref 37, Value.int 9 0, Value.int 0 0, Value.ref 49] }, kO0 "<module>" 277 278 279 1 28 29 280 281, kO1 30 3 "__main__" 164, { cls := Value.type "tuple", data := Data.seq #[] }, { cls := Value.none, data := Data.fields #[] }, kO2 "k" 285, { cls := Value.type "tuple", data := Data.seq #[] }, kO3 (pl 1) "_wall" "_wall", kO4 "_wall" 282 "_wall" 283 284 2 1 32 33 34 35 36 286 287, kO5 (pl 1) "_wall" "_wall" "__main__" 164 37, kO6 "list" 294 295 296 297 298 299 300 301 302 303 304 305 306 307 308 309 310 311 312 313 314 315, { cls := Value.type "dict", data := Data.dict #[] }, { cls := Value.type "tuple", data := Data.seq #[Value.none, Value.none] }, kO6 "tuple" 0 0 0 0 0 0 0 0 0 0 0 0 0 0 0 0 0 0 0 0 0 0, { cls := Value.type "re.Pattern", data := Data.fields #[Value.str (Str.ofString "([ \t]+)") 292, Value.int 32 317, Value.int 1 0, Value.none, Value.none, Value.ref 42, Value.int 0 0] }, { cls := Value.type "tuple", data := Data.seq #[] }, { cls := Value.type "builtin_function_or_method", data := Data.fields #[Value.builtin "type.__prepare__", Value.type "type"] }, { cls := Value.type "dict", data := Data.dict #[dZ P "__module__" 330 (Value.str (Str.ofString "cpy313.email.header") 289), dZ P "__qualname__" 332 (Value.str (Str.ofString "_ValueFormatter") 331), dZ P "__firstlineno__" 334 (Value.int 9 333), dZ P "__init__" 345 (Value.ref 57), dZ P "_str" 353 (Value.ref 64), dZ P "__str__" 360 (Value.ref 71), dZ P "newline" 368 (Value.ref 78), dZ P "add_transition" 375 (Value.ref 85), dZ P "feed" 385 (Value.ref 92), dZ P "_maxlengths" 392 (Value.ref 99), dZ P "_ascii_split" 404 (Value.ref 106), dZ P "_append_chunk" 418 (Value.ref 113), dZ P "__static_attributes__" 425 (Value.ref 114)] 13 }, { cls := Value.type "tuple", data := Data.seq #[] }, kO7 11 56 19 63 23 70 26 77 37 84 40 91 43 98 46 105 55 112, kO0 "_ValueFormatter" 325 326 327 9 47 48 328 329, kO1 49 46 "cpy313.email.header" 289, { cls := Value.type "tuple", data := Data.seq #[] }, { cls := Value.none, data := Data.fields #[] }, kO8 "self" 338 "headerlen" 339 "maxlen" 340 "continuation_ws" 341 "splitchars" 342, { cls := Value.type "tuple", data := Data.seq #[] }, kO3 (ml 6 0) "__init__" "_ValueFormatter.__init__", kO4 "__init__" 335 "_ValueFormatter.__init__" 336 337 11 5 51 52 53 54 55 343 344, kO5 (ml 6 0) "__init__" "_ValueFormatter.__init__" "cpy313.email.header" 289 56, { cls := Value.type "tuple", data := Data.seq #[] }, { cls := Value.none, data := Data.fields #[] }, kO9 349 "linesep" 350, { cls := Value.type "tuple", data := Data.seq #[] }, kO3 (ml 6 1) "_str" "_ValueFormatter._str", kO4 "_str" 346 "_ValueFormatter._str" 347 348 19 2 58 59 60 61 62 351 352, kO5 (ml 6 1) "_str" "_ValueFormatter._str" "cpy313.email.header" 289 63, { cls := Value.type "tuple", data := Data.seq #[] }, { cls := Value.none, data := Data.fields #[] }, kO2 "self" 357, { cls := Value.type "tuple", data := Data.seq #[] }, kO3 (ml 6 2) "__str__" "_ValueFormatter.__str__", kO4 "__str__" 354 "_ValueFormatter.__str__" 355 356 23 1 65 66 67 68 69 358 359, kO5 (ml 6 2) "__str__" "_ValueFormatter.__str__" "cpy313.email.header" 289 70, { cls := Value.type "tuple", data := Data.seq #[] }, { cls := Value.none, data := Data.fields #[] }, kO9 364 "end_of_line" 365, { cls := Value.type "tuple", data := Data.seq #[] }, kO3 (ml 6 3) "newline" "_ValueFormatter.newline", kO4 "newline" 361 "_ValueFormatter.newline" 362 363 26 1 72 73 74 75 76 366 367, kO5 (ml 6 3) "newline" "_ValueFormatter.newline" "cpy313.email.header" 289 77, { cls := Value.type "tuple", data := Data.seq #[] }, { cls := Value.none, data := Data.fields #[] }, kO2 "self" 372, { cls := Value.type "tuple", data := Data.seq #[] }, kO3 (ml 6 4) "add_transition" "_ValueFormatter.add_transition", kO4 "add_transition" 369 "_ValueFormatter.add_transition" 370 371 37 1 79 80 81 82 83 373 374, kO5 (ml 6 4) "add_transition" "_ValueFormatter.add_transition" "cpy313.email.header" 289 84, { cls := Value.type "tuple", data := Data.seq #[] }, { cls := Value.none, data := Data.fields #[] }, kO10 "self" 379 "fws" 380 "string" 381 "charset" 382, { cls := Value.type "tuple", data := Data.seq #[] }, kO3 (ml 6 5) "feed" "_ValueFormatter.feed", kO4 "feed" 376 "_ValueFormatter.feed" 377 378 40 4 86 87 88 89 90 383 384, kO5 (ml 6 5) "feed" "_ValueFormatter.feed" "cpy313.email.header" 289 91, { cls := Value.type "tuple", data := Data.seq #[] }, { cls := Value.none, data := Data.fields #[] }, kO2 "self" 389, { cls := Value.type "tuple", data := Data.seq #[] }, kO3 (ml 6 6) "_maxlengths" "_ValueFormatter._maxlengths", kO4 "_maxlengths" 386 "_ValueFormatter._maxlengths" 387 388 43 1 93 94 95 96 97 390 391, kO5 (ml 6 6) "_maxlengths" "_ValueFormatter._maxlengths" "cpy313.email.header" 289 98, { cls := Value.type "tuple", data := Data.seq #[] }, { cls := Value.none, data := Data.fields #[] }, kO11 "self" 396 "fws" 397 "string" 398 "splitchars" 399 "parts" 400 "part" 401, { cls := Value.type "tuple", data := Data.seq #[] }, kO3 (ml 6 7) "_ascii_split" "_ValueFormatter._ascii_split", kO4 "_ascii_split" 393 "_ValueFormatter._ascii_split" 394 395 46 4 100 101 102 103 104 402 403, kO5 (ml 6 7) "_ascii_split" "_ValueFormatter._ascii_split" "cpy313.email.header" 289 105, { cls := Value.type "tuple", data := Data.seq #[] }, { cls := Value.none, data := Data.fields #[] }, { cls := Value.type "tuple", data := Data.seq #[Value.str (Str.ofString "self") 408, Value.str (Str.ofString "fws") 409, Value.str (Str.ofString "string") 410, Value.str (Str.ofString "ch") 411, Value.str (Str.ofString "i") 412, Value.str (Str.ofString "prevpart") 413, Value.str (Str.ofString "part") 414, Value.str (Str.ofString "remainder") 415] }, { cls := Value.type "tuple", data := Data.seq #[] }, kO3 (ml 6 8) "_append_chunk" "_ValueFormatter._append_chunk", kO4 "_append_chunk" 405 "_ValueFormatter._append_chunk" 406 407 55 3 107 108 109 110 111 416 417, kO5 (ml 6 8) "_append_chunk" "_ValueFormatter._append_chunk" "cpy313.email.header" 289 112, kO11 "_continuation_ws" 419 "_continuation_ws_len" 420 "_current_line" 421 "_lines" 422 "_maxlen" 423 "_splitchars" 424, { cls := Value.type "dict", data := Data.dict #[dZ P "__module__" 330 (Value.str (Str.ofString "cpy313.email.header") 289), dZ P "__firstlineno__" 334 (Value.int 9 333), dZ P "__init__" 345 (Value.ref 57), dZ P "_str" 353 (Value.ref 64), dZ P "__str__" 360 (Value.ref 71), dZ P "newline" 368 (Value.ref 78), dZ P "add_transition" 375 (Value.ref 85), dZ P "feed" 385 (Value.ref 92), dZ P "_maxlengths" 392 (Value.ref 99), dZ P "_ascii_split" 404 (Value.ref 106), dZ P "_append_chunk" 418 (Value.ref 113), dZ P "__static_attributes__" 425 (Value.ref 114), dZ P "__dict__" 427 (Value.ref 117), dZ P "__weakref__" 429 (Value.ref 118), dZ P "__doc__" 430 (Value.none)] 4 }, kO12 "_ValueFormatter" 116 115 323 331, kO13 426 116, kO14 428 116, kO15 116, kO16 116] }
noncomputable def hc6 (P : Params) : Heap := { objs := #[h0_0 P, h0_1 P, h0_2 P, { cls := Value.type "dict", data := Data.dict #[dZ P "__name__" 165 (Value.str (Str.ofString "cpy313.email.header") 289), dZ P "__doc__" 166 (Value.none), dZ P "__package__" 167 (Value.none), dZ P "__loader__" 168 (Value.builtin "__main__.__loader__#\x6fpaque"), dZ P "__spec__" 169 (Value.none), dZ P "__annotations__" 170 (Value.ref 6), dZ P "__builtins__" 171 (Value.ref 4), dZ P "__file__" 173 (Value.str (Str.ofString "/claim/cut.py") 172), dZ P "__cached__" 174 (Value.none), dZ P "_sre" 275 (Value.ref 12), dZ P "_wall" 288 (Value.ref 38), dZ P "_twin_re_1" 318 (Value.ref 43), dZ P "NL" 320 (Value.str (Str.ofString "\n") 319), dZ P "EMPTYSTRING" 322 (Value.str (Str.ofString "") 321), dZ P "_ValueFormatter" 432 (Value.ref 116), dZ P "_Accumulator" 528 (Value.ref 200)] 16 }, h0_4 P, h0_5 P, h0_6 P, h0_7 P, h0_8 P, h0_9 P, h0_10 P, h0_11 P, h0_12 P, h0_13 P, h0_14 P, h0_15 P, h0_16 P, h0_17 P, h0_18 P, h0_19 P, h0_20 P, h0_21 P, h0_22 P, h0_23 P, h0_24 P, h0_25 P, h0_26 P, h0_27 P, { cls := Value.type "tuple", data := Data.seq #[] }, { cls := Value.none, data := Data.fields #[Value.int 2 0, Value.int 0 0, Value.ref 37, Value.int 9 0, Value.int 0 0, Value.ref 49, Value.int 81 0, Value.int 0 0, Value.ref 127] }, kO0 "<module>" 277 278 279 1 28 29 280 281, kO1 30 3 "__main__" 164, { cls := Value.type "tuple", data := Data.seq #[] }, { cls := Value.none, data := Data.fields #[] }, kO2 "k" 285, { cls := Value.type "tuple", data := Data.seq #[] }, kO3 (pl 1) "_wall" "_wall", kO4 "_wall" 282 "_wall" 283 284 2 1 32 33 34 35 36 286 287, kO5 (pl 1) "_wall" "_wall" "__main__" 164 37, kO6 "list" 294 295 296 297 298 299 300 301 302 303 304 305 306 307 308 309 310 311 312 313 314 315, { cls := Value.type "dict", data := Data.dict #[] }, { cls := Value.type "tuple", data := Data.seq #[Value.none, Value.none] }, kO6 "tuple" 0 0 0 0 0 0 0 0 0 0 0 0 0 0 0 0 0 0 0 0 0 0, { cls := Value.type "re.Pattern", data := Data.fields #[Value.str (Str.ofString "([ \t]+)") 292, Value.int 32 317, Value.int 1 0, Value.none, Value.none, Value.ref 42, Value.int 0 0] }, { cls := Value.type "tuple", data := Data.seq #[] }, { cls := Value.type "builtin_function_or_method", data := Data.fields #[Value.builtin "type.__prepare__", Value.type "type"] }, { cls := Value.type "dict", data := Data.dict #[dZ P "__module__" 330 (Value.str (Str.ofString "cpy313.email.header") 289), dZ P "__qualname__" 332 (Value.str (Str.ofString "_ValueFormatter") 331), dZ P "__firstlineno__" 334 (Value.int 9 333), dZ P "__init__" 345 (Value.ref 57), dZ P "_str" 353 (Value.ref 64), dZ P "__str__" 360 (Value.ref 71), dZ P "newline" 368 (Value.ref 78), dZ P "add_transition" 375 (Value.ref 85), dZ P "feed" 385 (Value.ref 92), dZ P "_maxlengths" 392 (Value.ref 99), dZ P "_ascii_split" 404 (Value.ref 106), dZ P "_append_chunk" 418 (Value.ref 113), dZ P "__static_attributes__" 425 (Value.ref 114)] 13 }, { cls := Value.type "tuple", data := Data.seq #[] }, kO7 11 56 19 63 23 70 26 77 37 84 40 91 43 98 46 105 55 112, kO0 "_ValueFormatter" 325 326 327 9 47 48 328 329, kO1 49 46 "cpy313.email.header" 289, { cls := Value.type "tuple", data := Data.seq #[] }, { cls := Value.none, data := Data.fields #[] }, kO8 "self" 338 "headerlen" 339 "maxlen" 340 "continuation_ws" 341 "splitchars" 342, { cls := Value.type "tuple", data := Data.seq #[] }, kO3 (ml 6 0) "__init__" "_ValueFormatter.__init__", kO4 "__init__" 335 "_ValueFormatter.__init__" 336 337 11 5 51 52 53 54 55 343 344, kO5 (ml 6 0) "__init__" "_ValueFormatter.__init__" "cpy313.email.header" 289 56, { cls := Value.type "tuple", data := Data.seq #[] }, { cls := Value.none, data := Data.fields #[] }, kO9 349 "linesep" 350, { cls := Value.type "tuple", data := Data.seq #[] }, kO3 (ml 6 1) "_str" "_ValueFormatter._str", kO4 "_str" 346 "_ValueFormatter._str" 347 348 19 2 58 59 60 61 62 351 352, kO5 (ml 6 1) "_str" "_ValueFormatter._str" "cpy313.email.header" 289 63, { cls := Value.type "tuple", data := Data.seq #[] }, { cls := Value.none, data := Data.fields #[] }, kO2 "self" 357, { cls := Value.type "tuple", data := Data.seq #[] }, kO3 (ml 6 2) "__str__" "_ValueFormatter.__str__", kO4 "__str__" 354 "_ValueFormatter.__str__" 355 356 23 1 65 66 67 68 69 358 359, kO5 (ml 6 2) "__str__" "_ValueFormatter.__str__" "cpy313.email.header" 289 70, { cls := Value.type "tuple", data := Data.seq #[] }, { cls := Value.none, data := Data.fields #[] }, kO9 364 "end_of_line" 365, { cls := Value.type "tuple", data := Data.seq #[] }, kO3 (ml 6 3) "newline" "_ValueFormatter.newline", kO4 "newline" 361 "_ValueFormatter.newline" 362 363 26 1 72 73 74 75 76 366 367, kO5 (ml 6 3) "newline" "_ValueFormatter.newline" "cpy313.email.header" 289 77, { cls := Value.type "tuple", data := Data.seq #[] }, { cls := Value.none, data := Data.fields #[] }, kO2 "self" 372, { cls := Value.type "tuple", data := Data.seq #[] }, kO3 (ml 6 4) "add_transition" "_ValueFormatter.add_transition", kO4 "add_transition" 369 "_ValueFormatter.add_transition" 370 371 37 1 79 80 81 82 83 373 374, kO5 (ml 6 4) "add_transition" "_ValueFormatter.add_transition" "cpy313.email.header" 289 84, { cls := Value.type "tuple", data := Data.seq #[] }, { cls := Value.none, data := Data.fields #[] }, kO10 "self" 379 "fws" 380 "string" 381 "charset" 382, { cls := Value.type "tuple", data := Data.seq #[] }, kO3 (ml 6 5) "feed" "_ValueFormatter.feed", kO4 "feed" 376 "_ValueFormatter.feed" 377 378 40 4 86 87 88 89 90 383 384, kO5 (ml 6 5) "feed" "_ValueFormatter.feed" "cpy313.email.header" 289 91, { cls := Value.type "tuple", data := Data.seq #[] }, { cls := Value.none, data := Data.fields #[] }, kO2 "self" 389, { cls := Value.type "tuple", data := Data.seq #[] }, kO3 (ml 6 6) "_maxlengths" "_ValueFormatter._maxlengths", kO4 "_maxlengths" 386 "_ValueFormatter._maxlengths" 387 388 43 1 93 94 95 96 97 390 391, kO5 (ml 6 6) "_maxlengths" "_ValueFormatter._maxlengths" "cpy313.email.header" 289 98, { cls := Value.type "tuple", data := Data.seq #[] }, { cls := Value.none, data := Data.fields #[] }, kO11 "self" 396 "fws" 397 "string" 398 "splitchars" 399 "parts" 400 "part" 401, { cls := Value.type "tuple", data := Data.seq #[] }, kO3 (ml 6 7) "_ascii_split" "_ValueFormatter._ascii_split", kO4 "_ascii_split" 393 "_ValueFormatter._ascii_split" 394 395 46 4 100 101 102 103 104 402 403, kO5 (ml 6 7) "_ascii_split" "_ValueFormatter._ascii_split" "cpy313.email.header" 289 105, { cls := Value.type "tuple", data := Data.seq #[] }, { cls := Value.none, data := Data.fields #[] }, { cls := Value.type "tuple", data := Data.seq #[Value.str (Str.ofString "self") 408, Value.str (Str.ofString "fws") 409, Value.str (Str.ofString "string") 410, Value.str (Str.ofString "ch") 411, Value.str (Str.ofString "i") 412, Value.str (Str.ofString "prevpart") 413, Value.str (Str.ofString "part") 414, Value.str (Str.ofString "remainder") 415] }, { cls := Value.type "tuple", data := Data.seq #[] }, kO3 (ml 6 8) "_append_chunk" "_ValueFormatter._append_chunk", kO4 "_append_chunk" 405 "_ValueFormatter._append_chunk" 406 407 55 3 107 108 109 110 111 416 417, kO5 (ml 6 8) "_append_chunk" "_ValueFormatter._append_chunk" "cpy313.email.header" 289 112, kO11 "_continuation_ws" 419 "_continuation_ws_len" 420 "_current_line" 421 "_lines" 422 "_maxlen" 423 "_splitchars" 424, { cls := Value.type "dict", data := Data.dict #[dZ P "__module__" 330 (Value.str (Str.ofString "cpy313.email.header") 289), dZ P "__firstlineno__" 334 (Value.int 9 333), dZ P "__init__" 345 (Value.ref 57), dZ P "_str" 353 (Value.ref 64), dZ P "__str__" 360 (Value.ref 71), dZ P "newline" 368 (Value.ref 78), dZ P "add_transition" 375 (Value.ref 85), dZ P "feed" 385 (Value.ref 92), dZ P "_maxlengths" 392 (Value.ref 99), dZ P "_ascii_split" 404 (Value.ref 106), dZ P "_append_chunk" 418 (Value.ref 113), dZ P "__static_attributes__" 425 (Value.ref 114), dZ P "__dict__" 427 (Value.ref 117), dZ P "__weakref__" 429 (Value.ref 118), dZ P "__doc__" 430 (Value.none)] 4 }, kO12 "_ValueFormatter" 116 115 323 331, kO13 426 116, kO14 428 116, kO15 116, kO16 116, kO17 "list", { cls := Value.type "builtin_function_or_method", data := Data.fields #[Value.builtin "type.__prepare__", Value.type "type"] }, { cls := Value.type "dict", data := Data.dict #[dZ P "__module__" 440 (Value.str (Str.ofString "cpy313.email.header") 289), dZ P "__qualname__" 442 (Value.str (Str.ofString "_Accumulator") 441), dZ P "__firstlineno__" 444 (Value.int 81 443), dZ P "__init__" 454 (Value.ref 137), dZ P "push" 463 (Value.ref 144), dZ P "pop_from" 473 (Value.ref 152), dZ P "pop" 481 (Value.ref 160), dZ P "__len__" 488 (Value.ref 167), dZ P "__str__" 495 (Value.ref 174), dZ P "reset" 503 (Value.ref 182), dZ P "is_onlyws" 510 (Value.ref 189), dZ P "part_count" 518 (Value.ref 197), dZ P "__static_attributes__" 520 (Value.ref 198), dZ P "__classcell__" 521 (Value.ref 124)] 14 }, { cls := Value.type "cell", data := Data.cell (some (Value.ref 200)) }, { cls := Value.type "tuple", data := Data.seq #[] }, kO7 83 136 87 143 90 151 95 159 100 166 103 173 106 181 112 188 115 196, kO0 "_Accumulator" 435 436 437 81 125 126 438 439, kO1 127 123 "cpy313.email.header" 289, kO18 445, kO19 124, kO2 "__class__" 449, { cls := Value.none, data := Data.fields #[] }, kO9 450 "initial_size" 451, { cls := Value.type "tuple", data := Data.seq #[] }, kO3 (ml 7 0) "__init__" "_Accumulator.__init__", kO4 "__init__" 446 "_Accumulator.__init__" 447 448 83 2 131 132 133 134 135 452 453, fo (ml 7 0) fun a b sc => { cls := Value.type "function", data := Data.func { name := Str.ofString "__init__", qualname := Str.ofString "_Accumulator.__init__", params := a, body := FuncBody.stmts b, scope := sc, globals := 3, closure := [(Str.ofString "__class__", 124)], defaults := Value.ref 129, kwdefaults := Value.none, pyModule := Value.str (Str.ofString "cpy313.email.header") 289, code := Value.ref 136, closureTuple := Value.ref 130 } }, { cls := Value.type "tuple", data := Data.seq #[] }, { cls := Value.none, data := Data.fields #[] }, kO20 458 "fws" 459 "string" 460, { cls := Value.type "tuple", data := Data.seq #[] }, kO3 (ml 7 1) "push" "_Accumulator.push", kO4 "push" 455 "_Accumulator.push" 456 457 87 3 138 139 140 141 142 461 462, kO5 (ml 7 1) "push" "_Accumulator.push" "cpy313.email.header" 289 143, kO18 464, { cls := Value.type "tuple", data := Data.seq #[] }, { cls := Value.none, data := Data.fields #[] }, kO20 468 "i" 469 "popped" 470, { cls := Value.type "tuple", data := Data.seq #[] }, kO3 (ml 7 2) "pop_from" "_Accumulator.pop_from", kO4 "pop_from" 465 "_Accumulator.pop_from" 466 467 90 2 146 147 148 149 150 471 472, kO21 (ml 7 2) "pop_from" "_Accumulator.pop_from" 145 151, kO19 124, kO2 "__class__" 477, { cls := Value.none, data := Data.fields #[] }, kO2 "self" 478, { cls := Value.type "tuple", data := Data.seq #[] }, kO3 (ml 7 3) "pop" "_Accumulator.pop", kO4 "pop" 474 "_Accumulator.pop" 475 476 95 1 154 155 156 157 158 479 480, kO22 (ml 7 3) "pop" "_Accumulator.pop" 159 153, { cls := Value.type "tuple", data := Data.seq #[] }, { cls := Value.none, data := Data.fields #[] }, kO2 "self" 485, { cls := Value.type "tuple", data := Data.seq #[] }, kO3 (ml 7 4) "__len__" "_Accumulator.__len__", kO4 "__len__" 482 "_Accumulator.__len__" 483 484 100 1 161 162 163 164 165 486 487, kO5 (ml 7 4) "__len__" "_Accumulator.__len__" "cpy313.email.header" 289 166, { cls := Value.type "tuple", data := Data.seq #[] }, { cls := Value.none, data := Data.fields #[] }, kO2 "self" 492, { cls := Value.type "tuple", data := Data.seq #[] }, kO3 (ml 7 5) "__str__" "_Accumulator.__str__", kO4 "__str__" 489 "_Accumulator.__str__" 490 491 103 1 168 169 170 171 172 493 494, kO5 (ml 7 5) "__str__" "_Accumulator.__str__" "cpy313.email.header" 289 173, { cls := Value.type "tuple", data := Data.seq #[Value.none] }, { cls := Value.type "tuple", data := Data.seq #[] }, { cls := Value.none, data := Data.fields #[] }, kO9 499 "startval" 500, { cls := Value.type "tuple", data := Data.seq #[] }, kO3 (ml 7 6) "reset" "_Accumulator.reset", kO4 "reset" 496 "_Accumulator.reset" 497 498 106 2 176 177 178 179 180 501 502, kO21 (ml 7 6) "reset" "_Accumulator.reset" 175 181, { cls := Value.type "tuple", data := Data.seq #[] }, { cls := Value.none, data := Data.fields #[] }, kO2 "self" 507, { cls := Value.type "tuple", data := Data.seq #[] }, kO3 (ml 7 7) "is_onlyws" "_Accumulator.is_onlyws", kO4 "is_onlyws" 504 "_Accumulator.is_onlyws" 505 506 112 1 183 184 185 186 187 508 509, kO5 (ml 7 7) "is_onlyws" "_Accumulator.is_onlyws" "cpy313.email.header" 289 188, kO19 124, kO2 "__class__" 514, { cls := Value.none, data := Data.fields #[] }, kO2 "self" 515, { cls := Value.type "tuple", data := Data.seq #[] }, kO3 (ml 7 8) "part_count" "_Accumulator.part_count", kO4 "part_count" 511 "_Accumulator.part_count" 512 513 115 1 191 192 193 194 195 516 517, kO22 (ml 7 8) "part_count" "_Accumulator.part_count" 196 190, kO2 "_initial_size" 519, { cls := Value.type "dict", data := Data.dict #[dZ P "__module__" 440 (Value.str (Str.ofString "cpy313.email.header") 289), dZ P "__firstlineno__" 444 (Value.int 81 443), dZ P "__init__" 454 (Value.ref 137), dZ P "push" 463 (Value.ref 144), dZ P "pop_from" 473 (Value.ref 152), dZ P "pop" 481 (Value.ref 160), dZ P "__len__" 488 (Value.ref 167), dZ P "__str__" 495 (Value.ref 174), dZ P "reset" 503 (Value.ref 182), dZ P "is_onlyws" 510 (Value.ref 189), dZ P "part_count" 518 (Value.ref 197), dZ P "__static_attributes__" 520 (Value.ref 198), dZ P "__dict__" 523 (Value.ref 201), dZ P "__weakref__" 525 (Value.ref 202), dZ P "__doc__" 526 (Value.none)] 5 }, { cls := Value.type "type", data := Data.cls { name := Str.ofString "_Accumulator", bases := [Value.type "list"], mro := [Value.ref 200, Value.type "list", Value.type "object"], ns := 199, qualname := Str.ofString "_Accumulator" }, slots := #[some (Value.ref 121), none, some (Value.str (Str.ofString "_Accumulator") 433), some (Value.str (Str.ofString "_Accumulator") 441), some (Value.builtin "list.__new__"), some (Value.bool true)] }, kO13 522 200, kO14 524 200, kO15 200, kO16 200] }
noncomputable def hc9 (P : Params) : Heap := { objs := #[h0_0 P, h0_1 P, { cls := Value.none, data := Data.dict #[dZ P "\x69mport.loaded._sre" 183 (Value.bool true), dZ P "class._frozen_importlib.BuiltinImporter" 185 (Value.ref 14), dZ P "watched.\x69mport" 206 (Value.ref 18), dZ P "class._frozen_importlib.ModuleSpec" 216 (Value.ref 22), dZ P "sys.modules.booked-epoch" 245 (Value.int 3 0), dZ P "\x69mport.later-laid._sre" 270 (Value.bool true), dZ P "watched.library" 272 (Value.ref 27), dZ P "watched.library-objects" 0 (Value.str (Str.ofString "\x0c") 0), dZ P "watched.library-deep._sre" 273 (Value.str (Str.ofString "\x04\x00\x00\x0b\x04\x00\x00\x0b\x04\x00\x00\x03\x04\x00\x00\x0b\x08\x04dict\x02") 0), dZ P "type.__subclasses__.Exception.0" 547 (Value.int 214 0), dZ P "type.__subclasses__.Exception.n" 548 (Value.int 1 0)] 11 }, { cls := Value.type "dict", data := Data.dict #[dZ P "__name__" 165 (Value.str (Str.ofString "cpy313.ftplib") 529), dZ P "__doc__" 166 (Value.none), dZ P "__package__" 167 (Value.none), dZ P "__loader__" 168 (Value.builtin "__main__.__loader__#\x6fpaque"), dZ P "__spec__" 169 (Value.none), dZ P "__annotations__" 170 (Value.ref 6), dZ P "__builtins__" 171 (Value.ref 4), dZ P "__file__" 173 (Value.str (Str.ofString "/claim/cut.py") 172), dZ P "__cached__" 174 (Value.none), dZ P "_sre" 275 (Value.ref 12), dZ P "_wall" 288 (Value.ref 38), dZ P "_twin_re_1" 318 (Value.ref 43), dZ P "NL" 320 (Value.str (Str.ofString "\n") 319), dZ P "EMPTYSTRING" 322 (Value.str (Str.ofString "") 321), dZ P "_ValueFormatter" 432 (Value.ref 116), dZ P "_Accumulator" 528 (Value.ref 200), dZ P "Error" 550 (Value.ref 214), dZ P "error_reply" 566 (Value.ref 227)] 18 }, h0_4 P, h0_5 P, h0_6 P, h0_7 P, h0_8 P, h0_9 P, h0_10 P, h0_11 P, h0_12 P, h0_13 P, h0_14 P, h0_15 P, h0_16 P, h0_17 P, h0_18 P, h0_19 P, h0_20 P, h0_21 P, h0_22 P, h0_23 P, h0_24 P, h0_25 P, h0_26 P, h0_27 P, { cls := Value.type "tuple", data := Data.seq #[] }, { cls := Value.none, data := Data.fields #[Value.int 2 0, Value.int 0 0, Value.ref 37, Value.int 9 0, Value.int 0 0, Value.ref 49, Value.int 81 0, Value.int 0 0, Value.ref 127, Value.int 118 0, Value.int 0 0, Value.ref 210, Value.int 120 0, Value.int 0 0, Value.ref 223] }, kO0 "<module>" 277 278 279 1 28 29 280 281, kO1 30 3 "__main__" 164, { cls := Value.type "tuple", data := Data.seq #[] }, { cls := Value.none, data := Data.fields #[] }, kO2 "k" 285, { cls := Value.type "tuple", data := Data.seq #[] }, kO3 (pl 1) "_wall" "_wall", kO4 "_wall" 282 "_wall" 283 284 2 1 32 33 34 35 36 286 287, kO5 (pl 1) "_wall" "_wall" "__main__" 164 37, kO6 "list" 294 295 296 297 298 299 300 301 302 303 304 305 306 307 308 309 310 311 312 313 314 315, { cls := Value.type "dict", data := Data.dict #[] }, { cls := Value.type "tuple", data := Data.seq #[Value.none, Value.none] }, kO6 "tuple" 0 0 0 0 0 0 0 0 0 0 0 0 0 0 0 0 0 0 0 0 0 0, { cls := Value.type "re.Pattern", data := Data.fields #[Value.str (Str.ofString "([ \t]+)") 292, Value.int 32 317, Value.int 1 0, Value.none, Value.none, Value.ref 42, Value.int 0 0] }, { cls := Value.type "tuple", data := Data.seq #[] }, { cls := Value.type "builtin_function_or_method", data := Data.fields #[Value.builtin "type.__prepare__", Value.type "type"] }, { cls := Value.type "dict", data := Data.dict #[dZ P "__module__" 330 (Value.str (Str.ofString "cpy313.email.header") 289), dZ P "__qualname__" 332 (Value.str (Str.ofString "_ValueFormatter") 331), dZ P "__firstlineno__" 334 (Value.int 9 333), dZ P "__init__" 345 (Value.ref 57), dZ P "_str" 353 (Value.ref 64), dZ P "__str__" 360 (Value.ref 71), dZ P "newline" 368 (Value.ref 78), dZ P "add_transition" 375 (Value.ref 85), dZ P "feed" 385 (Value.ref 92), dZ P "_maxlengths" 392 (Value.ref 99), dZ P "_ascii_split" 404 (Value.ref 106), dZ P "_append_chunk" 418 (Value.ref 113), dZ P "__static_attributes__" 425 (Value.ref 114)] 13 }, { cls := Value.type "tuple", data := Data.seq #[] }, kO7 11 56 19 63 23 70 26 77 37 84 40 91 43 98 46 105 55 112, kO0 "_ValueFormatter" 325 326 327 9 47 48 328 329, kO1 49 46 "cpy313.email.header" 289, { cls := Value.type "tuple", data := Data.seq #[] }, { cls := Value.none, data := Data.fields #[] }, kO8 "self" 338 "headerlen" 339 "maxlen" 340 "continuation_ws" 341 "splitchars" 342, { cls := Value.type "tuple", data := Data.seq #[] }, kO3 (ml 6 0) "__init__" "_ValueFormatter.__init__", kO4 "__init__" 335 "_ValueFormatter.__init__" 336 337 11 5 51 52 53 54 55 343 344, kO5 (ml 6 0) "__init__" "_ValueFormatter.__init__" "cpy313.email.header" 289 56, { cls := Value.type "tuple", data := Data.seq #[] }, { cls := Value.none, data := Data.fields #[] }, kO9 349 "linesep" 350, { cls := Value.type "tuple", data := Data.seq #[] }, kO3 (ml 6 1) "_str" "_ValueFormatter._str", kO4 "_str" 346 "_ValueFormatter._str" 347 348 19 2 58 59 60 61 62 351 352, kO5 (ml 6 1) "_str" "_ValueFormatter._str" "cpy313.email.header" 289 63, { cls := Value.type "tuple", data := Data.seq #[] }, { cls := Value.none, data := Data.fields #[] }, kO2 "self" 357, { cls := Value.type "tuple", data := Data.seq #[] }, kO3 (ml 6 2) "__str__" "_ValueFormatter.__str__", kO4 "__str__" 354 "_ValueFormatter.__str__" 355 356 23 1 65 66 67 68 69 358 359, kO5 (ml 6 2) "__str__" "_ValueFormatter.__str__" "cpy313.email.header" 289 70, { cls := Value.type "tuple", data := Data.seq #[] }, { cls := Value.none, data := Data.fields #[] }, kO9 364 "end_of_line" 365, { cls := Value.type "tuple", data := Data.seq #[] }, kO3 (ml 6 3) "newline" "_ValueFormatter.newline", kO4 "newline" 361 "_ValueFormatter.newline" 362 363 26 1 72 73 74 75 76 366 367, kO5 (ml 6 3) "newline" "_ValueFormatter.newline" "cpy313.email.header" 289 77, { cls := Value.type "tuple", data := Data.seq #[] }, { cls := Value.none, data := Data.fields #[] }, kO2 "self" 372, { cls := Value.type "tuple", data := Data.seq #[] }, kO3 (ml 6 4) "add_transition" "_ValueFormatter.add_transition", kO4 "add_transition" 369 "_ValueFormatter.add_transition" 370 371 37 1 79 80 81 82 83 373 374, kO5 (ml 6 4) "add_transition" "_ValueFormatter.add_transition" "cpy313.email.header" 289 84, { cls := Value.type "tuple", data := Data.seq #[] }, { cls := Value.none, data := Data.fields #[] }, kO10 "self" 379 "fws" 380 "string" 381 "charset" 382, { cls := Value.type "tuple", data := Data.seq #[] }, kO3 (ml 6 5) "feed" "_ValueFormatter.feed", kO4 "feed" 376 "_ValueFormatter.feed" 377 378 40 4 86 87 88 89 90 383 384, kO5 (ml 6 5) "feed" "_ValueFormatter.feed" "cpy313.email.header" 289 91, { cls := Value.type "tuple", data := Data.seq #[] }, { cls := Value.none, data := Data.fields #[] }, kO2 "self" 389, { cls := Value.type "tuple", data := Data.seq #[] }, kO3 (ml 6 6) "_maxlengths" "_ValueFormatter._maxlengths", kO4 "_maxlengths" 386 "_ValueFormatter._maxlengths" 387 388 43 1 93 94 95 96 97 390 391, kO5 (ml 6 6) "_maxlengths" "_ValueFormatter._maxlengths" "cpy313.email.header" 289 98, { cls := Value.type "tuple", data := Data.seq #[] }, { cls := Value.none, data := Data.fields #[] }, kO11 "self" 396 "fws" 397 "string" 398 "splitchars" 399 "parts" 400 "part" 401, { cls := Value.type "tuple", data := Data.seq #[] }, kO3 (ml 6 7) "_ascii_split" "_ValueFormatter._ascii_split", kO4 "_ascii_split" 393 "_ValueFormatter._ascii_split" 394 395 46 4 100 101 102 103 104 402 403, kO5 (ml 6 7) "_ascii_split" "_ValueFormatter._ascii_split" "cpy313.email.header" 289 105, { cls := Value.type "tuple", data := Data.seq #[] }, { cls := Value.none, data := Data.fields #[] }, { cls := Value.type "tuple", data := Data.seq #[Value.str (Str.ofString "self") 408, Value.str (Str.ofString "fws") 409, Value.str (Str.ofString "string") 410, Value.str (Str.ofString "ch") 411, Value.str (Str.ofString "i") 412, Value.str (Str.ofString "prevpart") 413, Value.str (Str.ofString "part") 414, Value.str (Str.ofString "remainder") 415] }, { cls := Value.type "tuple", data := Data.seq #[] }, kO3 (ml 6 8) "_append_chunk" "_ValueFormatter._append_chunk", kO4 "_append_chunk" 405 "_ValueFormatter._append_chunk" 406 407 55 3 107 108 109 110 111 416 417, kO5 (ml 6 8) "_append_chunk" "_ValueFormatter._append_chunk" "cpy313.email.header" 289 112, kO11 "_continuation_ws" 419 "_continuation_ws_len" 420 "_current_line" 421 "_lines" 422 "_maxlen" 423 "_splitchars" 424, { cls := Value.type "dict", data := Data.dict #[dZ P "__module__" 330 (Value.str (Str.ofString "cpy313.email.header") 289), dZ P "__firstlineno__" 334 (Value.int 9 333), dZ P "__init__" 345 (Value.ref 57), dZ P "_str" 353 (Value.ref 64), dZ P "__str__" 360 (Value.ref 71), dZ P "newline" 368 (Value.ref 78), dZ P "add_transition" 375 (Value.ref 85), dZ P "feed" 385 (Value.ref 92), dZ P "_maxlengths" 392 (Value.ref 99), dZ P "_ascii_split" 404 (Value.ref 106), dZ P "_append_chunk" 418 (Value.ref 113), dZ P "__static_attributes__" 425 (Value.ref 114), dZ P "__dict__" 427 (Value.ref 117), dZ P "__weakref__" 429 (Value.ref 118), dZ P "__doc__" 430 (Value.none)] 4 }, kO12 "_ValueFormatter" 116 115 323 331, kO13 426 116, kO14 428 116, kO15 116, kO16 116, kO17 "list", { cls := Value.type "builtin_function_or_method", data := Data.fields #[Value.builtin "type.__prepare__", Value.type "type"] }, { cls := Value.type "dict", data := Data.dict #[dZ P "__module__" 440 (Value.str (Str.ofString "cpy313.email.header") 289), dZ P "__qualname__" 442 (Value.str (Str.ofString "_Accumulator") 441), dZ P "__firstlineno__" 444 (Value.int 81 443), dZ P "__init__" 454 (Value.ref 137), dZ P "push" 463 (Value.ref 144), dZ P "pop_from" 473 (Value.ref 152), dZ P "pop" 481 (Value.ref 160), dZ P "__len__" 488 (Value.ref 167), dZ P "__str__" 495 (Value.ref 174), dZ P "reset" 503 (Value.ref 182), dZ P "is_onlyws" 510 (Value.ref 189), dZ P "part_count" 518 (Value.ref 197), dZ P "__static_attributes__" 520 (Value.ref 198), dZ P "__classcell__" 521 (Value.ref 124)] 14 }, { cls := Value.type "cell", data := Data.cell (some (Value.ref 200)) }, { cls := Value.type "tuple", data := Data.seq #[] }, kO7 83 136 87 143 90 151 95 159 100 166 103 173 106 181 112 188 115 196, kO0 "_Accumulator" 435 436 437 81 125 126 438 439, kO1 127 123 "cpy313.email.header" 289, kO18 445, kO19 124, kO2 "__class__" 449, { cls := Value.none, data := Data.fields #[] }, kO9 450 "initial_size" 451, { cls := Value.type "tuple", data := Data.seq #[] }, kO3 (ml 7 0) "__init__" "_Accumulator.__init__", kO4 "__init__" 446 "_Accumulator.__init__" 447 448 83 2 131 132 133 134 135 452 453, fo (ml 7 0) fun a b sc => { cls := Value.type "function", data := Data.func { name := Str.ofString "__init__", qualname := Str.ofString "_Accumulator.__init__", params := a, body := FuncBody.stmts b, scope := sc, globals := 3, closure := [(Str.ofString "__class__", 124)], defaults := Value.ref 129, kwdefaults := Value.none, pyModule := Value.str (Str.ofString "cpy313.email.header") 289, code := Value.ref 136, closureTuple := Value.ref 130 } }, { cls := Value.type "tuple", data := Data.seq #[] }, { cls := Value.none, data := Data.fields #[] }, kO20 458 "fws" 459 "string" 460, { cls := Value.type "tuple", data := Data.seq #[] }, kO3 (ml 7 1) "push" "_Accumulator.push", kO4 "push" 455 "_Accumulator.push" 456 457 87 3 138 139 140 141 142 461 462, kO5 (ml 7 1) "push" "_Accumulator.push" "cpy313.email.header" 289 143, kO18 464, { cls := Value.type "tuple", data := Data.seq #[] }, { cls := Value.none, data := Data.fields #[] }, kO20 468 "i" 469 "popped" 470, { cls := Value.type "tuple", data := Data.seq #[] }, kO3 (ml 7 2) "pop_from" "_Accumulator.pop_from", kO4 "pop_from" 465 "_Accumulator.pop_from" 466 467 90 2 146 147 148 149 150 471 472, kO21 (ml 7 2) "pop_from" "_Accumulator.pop_from" 145 151, kO19 124, kO2 "__class__" 477, { cls := Value.none, data := Data.fields #[] }, kO2 "self" 478, { cls := Value.type "tuple", data := Data.seq #[] }, kO3 (ml 7 3) "pop" "_Accumulator.pop", kO4 "pop" 474 "_Accumulator.pop" 475 476 95 1 154 155 156 157 158 479 480, kO22 (ml 7 3) "pop" "_Accumulator.pop" 159 153, { cls := Value.type "tuple", data := Data.seq #[] }, { cls := Value.none, data := Data.fields #[] }, kO2 "self" 485, { cls := Value.type "tuple", data := Data.seq #[] }, kO3 (ml 7 4) "__len__" "_Accumulator.__len__", kO4 "__len__" 482 "_Accumulator.__len__" 483 484 100 1 161 162 163 164 165 486 487, kO5 (ml 7 4) "__len__" "_Accumulator.__len__" "cpy313.email.header" 289 166, { cls := Value.type "tuple", data := Data.seq #[] }, { cls := Value.none, data := Data.fields #[] }, kO2 "self" 492, { cls := Value.type "tuple", data := Data.seq #[] }, kO3 (ml 7 5) "__str__" "_Accumulator.__str__", kO4 "__str__" 489 "_Accumulator.__str__" 490 491 103 1 168 169 170 171 172 493 494, kO5 (ml 7 5) "__str__" "_Accumulator.__str__" "cpy313.email.header" 289 173, { cls := Value.type "tuple", data := Data.seq #[Value.none] }, { cls := Value.type "tuple", data := Data.seq #[] }, { cls := Value.none, data := Data.fields #[] }, kO9 499 "startval" 500, { cls := Value.type "tuple", data := Data.seq #[] }, kO3 (ml 7 6) "reset" "_Accumulator.reset", kO4 "reset" 496 "_Accumulator.reset" 497 498 106 2 176 177 178 179 180 501 502, kO21 (ml 7 6) "reset" "_Accumulator.reset" 175 181, { cls := Value.type "tuple", data := Data.seq #[] }, { cls := Value.none, data := Data.fields #[] }, kO2 "self" 507, { cls := Value.type "tuple", data := Data.seq #[] }, kO3 (ml 7 7) "is_onlyws" "_Accumulator.is_onlyws", kO4 "is_onlyws" 504 "_Accumulator.is_onlyws" 505 506 112 1 183 184 185 186 187 508 509, kO5 (ml 7 7) "is_onlyws" "_Accumulator.is_onlyws" "cpy313.email.header" 289 188, kO19 124, kO2 "__class__" 514, { cls := Value.none, data := Data.fields #[] }, kO2 "self" 515, { cls := Value.type "tuple", data := Data.seq #[] }, kO3 (ml 7 8) "part_count" "_Accumulator.part_count", kO4 "part_count" 511 "_Accumulator.part_count" 512 513 115 1 191 192 193 194 195 516 517, kO22 (ml 7 8) "part_count" "_Accumulator.part_count" 196 190, kO2 "_initial_size" 519, { cls := Value.type "dict", data := Data.dict #[dZ P "__module__" 440 (Value.str (Str.ofString "cpy313.email.header") 289), dZ P "__firstlineno__" 444 (Value.int 81 443), dZ P "__init__" 454 (Value.ref 137), dZ P "push" 463 (Value.ref 144), dZ P "pop_from" 473 (Value.ref 152), dZ P "pop" 481 (Value.ref 160), dZ P "__len__" 488 (Value.ref 167), dZ P "__str__" 495 (Value.ref 174), dZ P "reset" 503 (Value.ref 182), dZ P "is_onlyws" 510 (Value.ref 189), dZ P "part_count" 518 (Value.ref 197), dZ P "__static_attributes__" 520 (Value.ref 198), dZ P "__dict__" 523 (Value.ref 201), dZ P "__weakref__" 525 (Value.ref 202), dZ P "__doc__" 526 (Value.none)] 5 }, { cls := Value.type "type", data := Data.cls { name := Str.ofString "_Accumulator", bases := [Value.type "list"], mro := [Value.ref 200, Value.type "list", Value.type "object"], ns := 199, qualname := Str.ofString "_Accumulator" }, slots := #[some (Value.ref 121), none, some (Value.str (Str.ofString "_Accumulator") 433), some (Value.str (Str.ofString "_Accumulator") 441), some (Value.builtin "list.__new__"), some (Value.bool true)] }, kO13 522 200, kO14 524 200, kO15 200, kO16 200, kO17 "Exception", { cls := Value.type "builtin_function_or_method", data := Data.fields #[Value.builtin "type.__prepare__", Value.type "type"] }, { cls := Value.type "dict", data := Data.dict #[dZ P "__module__" 538 (Value.str (Str.ofString "cpy313.ftplib") 529), dZ P "__qualname__" 540 (Value.str (Str.ofString "Error") 539), dZ P "__firstlineno__" 542 (Value.int 118 541), dZ P "__static_attributes__" 543 (Value.ref 212)] 4 }, { cls := Value.type "tuple", data := Data.seq #[] }, { cls := Value.none, data := Data.fields #[] }, kO0 "Error" 533 534 535 118 208 209 536 537, kO1 210 207 "cpy313.ftplib" 529, { cls := Value.type "tuple", data := Data.seq #[] }, { cls := Value.type "dict", data := Data.dict #[dZ P "__module__" 538 (Value.str (Str.ofString "cpy313.ftplib") 529), dZ P "__firstlineno__" 542 (Value.int 118 541), dZ P "__static_attributes__" 543 (Value.ref 212), dZ P "__weakref__" 545 (Value.ref 215), dZ P "__doc__" 546 (Value.none)] 3 }, { cls := Value.type "type", data := Data.cls { name := Str.ofString "Error", bases := [Value.type "Exception"], mro := [Value.ref 214, Value.type "Exception", Value.type "BaseException", Value.type "object"], ns := 213, qualname := Str.ofString "Error", subclasses := [Value.ref 227] }, slots := #[some (Value.ref 205), none, some (Value.str (Str.ofString "Error") 531), some (Value.str (Str.ofString "Error") 539), some (Value.builtin "Exception.__new__"), some (Value.bool true)] }, kO14 544 214, kO15 214, kO16 214, kO19 214, { cls := Value.type "builtin_function_or_method", data := Data.fields #[Value.builtin "type.__prepare__", Value.type "type"] }, { cls := Value.type "dict", data := Data.dict #[dZ P "__module__" 558 (Value.str (Str.ofString "cpy313.ftplib") 529), dZ P "__qualname__" 560 (Value.str (Str.ofString "error_reply") 559), dZ P "__firstlineno__" 562 (Value.int 120 561), dZ P "__static_attributes__" 563 (Value.ref 225)] 4 }, { cls := Value.type "tuple", data := Data.seq #[] }, { cls := Value.none, data := Data.fields #[] }, kO0 "error_reply" 553 554 555 120 221 222 556 557, kO1 223 220 "cpy313.ftplib" 529, { cls := Value.type "tuple", data := Data.seq #[] }, { cls := Value.type "dict", data := Data.dict #[dZ P "__module__" 558 (Value.str (Str.ofString "cpy313.ftplib") 529), dZ P "__firstlineno__" 562 (Value.int 120 561), dZ P "__static_attributes__" 563 (Value.ref 225), dZ P "__doc__" 564 (Value.none)] 2 }, { cls := Value.type "type", data := Data.cls { name := Str.ofString "error_reply", bases := [Value.ref 214], mro := [Value.ref 227, Value.ref 214, Value.type "Exception", Value.type "BaseException", Value.type "object"], ns := 226, qualname := Str.ofString "error_reply" }, slots := #[some (Value.ref 218), none, some (Value.str (Str.ofString "error_reply") 551), some (Value.str (Str.ofString "error_reply") 559), some (Value.builtin "Exception.__new__"), some (Value.bool true)] }, kO15 227, kO16 227] }
noncomputable def hc12 (P : Params) : Heap := { objs := #[h0_0 P, h0_1 P, { cls := Value.none, data := Data.dict #[dZ P "\x69mport.loaded._sre" 183 (Value.bool true), dZ P "class._frozen_importlib.BuiltinImporter" 185 (Value.ref 14), dZ P "watched.\x69mport" 206 (Value.ref 18), dZ P "class._frozen_importlib.ModuleSpec" 216 (Value.ref 22), dZ P "sys.modules.booked-epoch" 245 (Value.int 3 0), dZ P "\x69mport.later-laid._sre" 270 (Value.bool true), dZ P "watched.library" 272 (Value.ref 27), dZ P "watched.library-objects" 0 (Value.str (Str.ofString "\x0c") 0), dZ P "watched.library-deep._sre" 273 (Value.str (Str.ofString "\x04\x00\x00\x0b\x04\x00\x00\x0b\x04\x00\x00\x03\x04\x00\x00\x0b\x08\x04dict\x02") 0), dZ P "type.__subclasses__.Exception.0" 547 (Value.int 214 0), dZ P "type.__subclasses__.Exception.n" 548 (Value.int 1 0)] 11 }, { cls := Value.type "dict", data := Data.dict #[dZ P "__name__" 165 (Value.str (Str.ofString "cpy313.netrc") 578), dZ P "__doc__" 166 (Value.none), dZ P "__package__" 167 (Value.none), dZ P "__loader__" 168 (Value.builtin "__main__.__loader__#\x6fpaque"), dZ P "__spec__" 169 (Value.none), dZ P "__annotations__" 170 (Value.ref 6), dZ P "__builtins__" 171 (Value.ref 4), dZ P "__file__" 173 (Value.str (Str.ofString "/claim/cut.py") 172), dZ P "__cached__" 174 (Value.none), dZ P "_sre" 275 (Value.ref 12), dZ P "_wall" 288 (Value.ref 38), dZ P "_twin_re_1" 318 (Value.ref 43), dZ P "NL" 320 (Value.str (Str.ofString "\n") 319), dZ P "EMPTYSTRING" 322 (Value.str (Str.ofString "") 321), dZ P "_ValueFormatter" 432 (Value.ref 116), dZ P "_Accumulator" 528 (Value.ref 200), dZ P "Error" 550 (Value.ref 214), dZ P "error_reply" 566 (Value.ref 227), dZ P "parse257" 577 (Value.ref 236), dZ P "_netrclex" 637 (Value.ref 274)] 20 }, h0_4 P, h0_5 P, h0_6 P, h0_7 P, h0_8 P, h0_9 P, h0_10 P, h0_11 P, h0_12 P, h0_13 P, h0_14 P, h0_15 P, h0_16 P, h0_17 P, h0_18 P, h0_19 P, h0_20 P, h0_21 P, h0_22 P, h0_23 P, h0_24 P, h0_25 P, h0_26 P, h0_27 P, { cls := Value.type "tuple", data := Data.seq #[] }, { cls := Value.none, data := Data.fields #[Value.int 2 0, Value.int 0 0, Value.ref 37, Value.int 9 0, Value.int 0 0, Value.ref 49, Value.int 81 0, Value.int 0 0, Value.ref 127, Value.int 118 0, Value.int 0 0, Value.ref 210, Value.int 120 0, Value.int 0 0, Value.ref 223, Value.int 122 0, Value.int 0 0, Value.ref 235, Value.int 140 0, Value.int 0 0, Value.ref 242] }, kO0 "<module>" 277 278 279 1 28 29 280 281, kO1 30 3 "__main__" 164, { cls := Value.type "tuple", data := Data.seq #[] }, { cls := Value.none, data := Data.fields #[] }, kO2 "k" 285, { cls := Value.type "tuple", data := Data.seq #[] }, kO3 (pl 1) "_wall" "_wall", kO4 "_wall" 282 "_wall" 283 284 2 1 32 33 34 35 36 286 287, kO5 (pl 1) "_wall" "_wall" "__main__" 164 37, kO6 "list" 294 295 296 297 298 299 300 301 302 303 304 305 306 307 308 309 310 311 312 313 314 315, { cls := Value.type "dict", data := Data.dict #[] }, { cls := Value.type "tuple", data := Data.seq #[Value.none, Value.none] }, kO6 "tuple" 0 0 0 0 0 0 0 0 0 0 0 0 0 0 0 0 0 0 0 0 0 0, { cls := Value.type "re.Pattern", data := Data.fields #[Value.str (Str.ofString "([ \t]+)") 292, Value.int 32 317, Value.int 1 0, Value.none, Value.none, Value.ref 42, Value.int 0 0] }, { cls := Value.type "tuple", data := Data.seq #[] }, { cls := Value.type "builtin_function_or_method", data := Data.fields #[Value.builtin "type.__prepare__", Value.type "type"] }, { cls := Value.type "dict", data := Data.dict #[dZ P "__module__" 330 (Value.str (Str.ofString "cpy313.email.header") 289), dZ P "__qualname__" 332 (Value.str (Str.ofString "_ValueFormatter") 331), dZ P "__firstlineno__" 334 (Value.int 9 333), dZ P "__init__" 345 (Value.ref 57), dZ P "_str" 353 (Value.ref 64), dZ P "__str__" 360 (Value.ref 71), dZ P "newline" 368 (Value.ref 78), dZ P "add_transition" 375 (Value.ref 85), dZ P "feed" 385 (Value.ref 92), dZ P "_maxlengths" 392 (Value.ref 99), dZ P "_ascii_split" 404 (Value.ref 106), dZ P "_append_chunk" 418 (Value.ref 113), dZ P "__static_attributes__" 425 (Value.ref 114)] 13 }, { cls := Value.type "tuple", data := Data.seq #[] }, kO7 11 56 19 63 23 70 26 77 37 84 40 91 43 98 46 105 55 112, kO0 "_ValueFormatter" 325 326 327 9 47 48 328 329, kO1 49 46 "cpy313.email.header" 289, { cls := Value.type "tuple", data := Data.seq #[] }, { cls := Value.none, data := Data.fields #[] }, kO8 "self" 338 "headerlen" 339 "maxlen" 340 "continuation_ws" 341 "splitchars" 342, { cls := Value.type "tuple", data := Data.seq #[] }, kO3 (ml 6 0) "__init__" "_ValueFormatter.__init__", kO4 "__init__" 335 "_ValueFormatter.__init__" 336 337 11 5 51 52 53 54 55 343 344, kO5 (ml 6 0) "__init__" "_ValueFormatter.__init__" "cpy313.email.header" 289 56, { cls := Value.type "tuple", data := Data.seq #[] }, { cls := Value.none, data := Data.fields #[] }, kO9 349 "linesep" 350, { cls := Value.type "tuple", data := Data.seq #[] }, kO3 (ml 6 1) "_str" "_ValueFormatter._str", kO4 "_str" 346 "_ValueFormatter._str" 347 348 19 2 58 59 60 61 62 351 352, kO5 (ml 6 1) "_str" "_ValueFormatter._str" "cpy313.email.header" 289 63, { cls := Value.type "tuple", data := Data.seq #[] }, { cls := Value.none, data := Data.fields #[] }, kO2 "self" 357, { cls := Value.type "tuple", data := Data.seq #[] }, kO3 (ml 6 2) "__str__" "_ValueFormatter.__str__", kO4 "__str__" 354 "_ValueFormatter.__str__" 355 356 23 1 65 66 67 68 69 358 359, kO5 (ml 6 2) "__str__" "_ValueFormatter.__str__" "cpy313.email.header" 289 70, { cls := Value.type "tuple", data := Data.seq #[] }, { cls := Value.none, data := Data.fields #[] }, kO9 364 "end_of_line" 365, { cls := Value.type "tuple", data := Data.seq #[] }, kO3 (ml 6 3) "newline" "_ValueFormatter.newline", kO4 "newline" 361 "_ValueFormatter.newline" 362 363 26 1 72 73 74 75 76 366 367, kO5 (ml 6 3) "newline" "_ValueFormatter.newline" "cpy313.email.header" 289 77, { cls := Value.type "tuple", data := Data.seq #[] }, { cls := Value.none, data := Data.fields #[] }, kO2 "self" 372, { cls := Value.type "tuple", data := Data.seq #[] }, kO3 (ml 6 4) "add_transition" "_ValueFormatter.add_transition", kO4 "add_transition" 369 "_ValueFormatter.add_transition" 370 371 37 1 79 80 81 82 83 373 374, kO5 (ml 6 4) "add_transition" "_ValueFormatter.add_transition" "cpy313.email.header" 289 84, { cls := Value.type "tuple", data := Data.seq #[] }, { cls := Value.none, data := Data.fields #[] }, kO10 "self" 379 "fws" 380 "string" 381 "charset" 382, { cls := Value.type "tuple", data := Data.seq #[] }, kO3 (ml 6 5) "feed" "_ValueFormatter.feed", kO4 "feed" 376 "_ValueFormatter.feed" 377 378 40 4 86 87 88 89 90 383 384, kO5 (ml 6 5) "feed" "_ValueFormatter.feed" "cpy313.email.header" 289 91, { cls := Value.type "tuple", data := Data.seq #[] }, { cls := Value.none, data := Data.fields #[] }, kO2 "self" 389, { cls := Value.type "tuple", data := Data.seq #[] }, kO3 (ml 6 6) "_maxlengths" "_ValueFormatter._maxlengths", kO4 "_maxlengths" 386 "_ValueFormatter._maxlengths" 387 388 43 1 93 94 95 96 97 390 391, kO5 (ml 6 6) "_maxlengths" "_ValueFormatter._maxlengths" "cpy313.email.header" 289 98, { cls := Value.type "tuple", data := Data.seq #[] }, { cls := Value.none, data := Data.fields #[] }, kO11 "self" 396 "fws" 397 "string" 398 "splitchars" 399 "parts" 400 "part" 401, { cls := Value.type "tuple", data := Data.seq #[] }, kO3 (ml 6 7) "_ascii_split" "_ValueFormatter._ascii_split", kO4 "_ascii_split" 393 "_ValueFormatter._ascii_split" 394 395 46 4 100 101 102 103 104 402 403, kO5 (ml 6 7) "_ascii_split" "_ValueFormatter._ascii_split" "cpy313.email.header" 289 105, { cls := Value.type "tuple", data := Data.seq #[] }, { cls := Value.none, data := Data.fields #[] }, { cls := Value.type "tuple", data := Data.seq #[Value.str (Str.ofString "self") 408, Value.str (Str.ofString "fws") 409, Value.str (Str.ofString "string") 410, Value.str (Str.ofString "ch") 411, Value.str (Str.ofString "i") 412, Value.str (Str.ofString "prevpart") 413, Value.str (Str.ofString "part") 414, Value.str (Str.ofString "remainder") 415] }, { cls := Value.type "tuple", data := Data.seq #[] }, kO3 (ml 6 8) "_append_chunk" "_ValueFormatter._append_chunk", kO4 "_append_chunk" 405 "_ValueFormatter._append_chunk" 406 407 55 3 107 108 109 110 111 416 417, kO5 (ml 6 8) "_append_chunk" "_ValueFormatter._append_chunk" "cpy313.email.header" 289 112, kO11 "_continuation_ws" 419 "_continuation_ws_len" 420 "_current_line" 421 "_lines" 422 "_maxlen" 423 "_splitchars" 424, { cls := Value.type "dict", data := Data.dict #[dZ P "__module__" 330 (Value.str (Str.ofString "cpy313.email.header") 289), dZ P "__firstlineno__" 334 (Value.int 9 333), dZ P "__init__" 345 (Value.ref 57), dZ P "_str" 353 (Value.ref 64), dZ P "__str__" 360 (Value.ref 71), dZ P "newline" 368 (Value.ref 78), dZ P "add_transition" 375 (Value.ref 85), dZ P "feed" 385 (Value.ref 92), dZ P "_maxlengths" 392 (Value.ref 99), dZ P "_ascii_split" 404 (Value.ref 106), dZ P "_append_chunk" 418 (Value.ref 113), dZ P "__static_attributes__" 425 (Value.ref 114), dZ P "__dict__" 427 (Value.ref 117), dZ P "__weakref__" 429 (Value.ref 118), dZ P "__doc__" 430 (Value.none)] 4 }, kO12 "_ValueFormatter" 116 115 323 331, kO13 426 116, kO14 428 116, kO15 116, kO16 116, kO17 "list", { cls := Value.type "builtin_function_or_method", data := Data.fields #[Value.builtin "type.__prepare__", Value.type "type"] }, { cls := Value.type "dict", data := Data.dict #[dZ P "__module__" 440 (Value.str (Str.ofString "cpy313.email.header") 289), dZ P "__qualname__" 442 (Value.str (Str.ofString "_Accumulator") 441), dZ P "__firstlineno__" 444 (Value.int 81 443), dZ P "__init__" 454 (Value.ref 137), dZ P "push" 463 (Value.ref 144), dZ P "pop_from" 473 (Value.ref 152), dZ P "pop" 481 (Value.ref 160), dZ P "__len__" 488 (Value.ref 167), dZ P "__str__" 495 (Value.ref 174), dZ P "reset" 503 (Value.ref 182), dZ P "is_onlyws" 510 (Value.ref 189), dZ P "part_count" 518 (Value.ref 197), dZ P "__static_attributes__" 520 (Value.ref 198), dZ P "__classcell__" 521 (Value.ref 124)] 14 }, { cls := Value.type "cell", data := Data.cell (some (Value.ref 200)) }, { cls := Value.type "tuple", data := Data.seq #[] }, kO7 83 136 87 143 90 151 95 159 100 166 103 173 106 181 112 188 115 196, kO0 "_Accumulator" 435 436 437 81 125 126 438 439, kO1 127 123 "cpy313.email.header" 289, kO18 445, kO19 124, kO2 "__class__" 449, { cls := Value.none, data := Data.fields #[] }, kO9 450 "initial_size" 451, { cls := Value.type "tuple", data := Data.seq #[] }, kO3 (ml 7 0) "__init__" "_Accumulator.__init__", kO4 "__init__" 446 "_Accumulator.__init__" 447 448 83 2 131 132 133 134 135 452 453, fo (ml 7 0) fun a b sc => { cls := Value.type "function", data := Data.func { name := Str.ofString "__init__", qualname := Str.ofString "_Accumulator.__init__", params := a, body := FuncBody.stmts b, scope := sc, globals := 3, closure := [(Str.ofString "__class__", 124)], defaults := Value.ref 129, kwdefaults := Value.none, pyModule := Value.str (Str.ofString "cpy313.email.header") 289, code := Value.ref 136, closureTuple := Value.ref 130 } }, { cls := Value.type "tuple", data := Data.seq #[] }, { cls := Value.none, data := Data.fields #[] }, kO20 458 "fws" 459 "string" 460, { cls := Value.type "tuple", data := Data.seq #[] }, kO3 (ml 7 1) "push" "_Accumulator.push", kO4 "push" 455 "_Accumulator.push" 456 457 87 3 138 139 140 141 142 461 462, kO5 (ml 7 1) "push" "_Accumulator.push" "cpy313.email.header" 289 143, kO18 464, { cls := Value.type "tuple", data := Data.seq #[] }, { cls := Value.none, data := Data.fields #[] }, kO20 468 "i" 469 "popped" 470, { cls := Value.type "tuple", data := Data.seq #[] }, kO3 (ml 7 2) "pop_from" "_Accumulator.pop_from", kO4 "pop_from" 465 "_Accumulator.pop_from" 466 467 90 2 146 147 148 149 150 471 472, kO21 (ml 7 2) "pop_from" "_Accumulator.pop_from" 145 151, kO19 124, kO2 "__class__" 477, { cls := Value.none, data := Data.fields #[] }, kO2 "self" 478, { cls := Value.type "tuple", data := Data.seq #[] }, kO3 (ml 7 3) "pop" "_Accumulator.pop", kO4 "pop" 474 "_Accumulator.pop" 475 476 95 1 154 155 156 157 158 479 480, kO22 (ml 7 3) "pop" "_Accumulator.pop" 159 153, { cls := Value.type "tuple", data := Data.seq #[] }, { cls := Value.none, data := Data.fields #[] }, kO2 "self" 485, { cls := Value.type "tuple", data := Data.seq #[] }, kO3 (ml 7 4) "__len__" "_Accumulator.__len__", kO4 "__len__" 482 "_Accumulator.__len__" 483 484 100 1 161 162 163 164 165 486 487, kO5 (ml 7 4) "__len__" "_Accumulator.__len__" "cpy313.email.header" 289 166, { cls := Value.type "tuple", data := Data.seq #[] }, { cls := Value.none, data := Data.fields #[] }, kO2 "self" 492, { cls := Value.type "tuple", data := Data.seq #[] }, kO3 (ml 7 5) "__str__" "_Accumulator.__str__", kO4 "__str__" 489 "_Accumulator.__str__" 490 491 103 1 168 169 170 171 172 493 494, kO5 (ml 7 5) "__str__" "_Accumulator.__str__" "cpy313.email.header" 289 173, { cls := Value.type "tuple", data := Data.seq #[Value.none] }, { cls := Value.type "tuple", data := Data.seq #[] }, { cls := Value.none, data := Data.fields #[] }, kO9 499 "startval" 500, { cls := Value.type "tuple", data := Data.seq #[] }, kO3 (ml 7 6) "reset" "_Accumulator.reset", kO4 "reset" 496 "_Accumulator.reset" 497 498 106 2 176 177 178 179 180 501 502, kO21 (ml 7 6) "reset" "_Accumulator.reset" 175 181, { cls := Value.type "tuple", data := Data.seq #[] }, { cls := Value.none, data := Data.fields #[] }, kO2 "self" 507, { cls := Value.type "tuple", data := Data.seq #[] }, kO3 (ml 7 7) "is_onlyws" "_Accumulator.is_onlyws", kO4 "is_onlyws" 504 "_Accumulator.is_onlyws" 505 506 112 1 183 184 185 186 187 508 509, kO5 (ml 7 7) "is_onlyws" "_Accumulator.is_onlyws" "cpy313.email.header" 289 188, kO19 124, kO2 "__class__" 514, { cls := Value.none, data := Data.fields #[] }, kO2 "self" 515, { cls := Value.type "tuple", data := Data.seq #[] }, kO3 (ml 7 8) "part_count" "_Accumulator.part_count", kO4 "part_count" 511 "_Accumulator.part_count" 512 513 115 1 191 192 193 194 195 516 517, kO22 (ml 7 8) "part_count" "_Accumulator.part_count" 196 190, kO2 "_initial_size" 519, { cls := Value.type "dict", data := Data.dict #[dZ P "__module__" 440 (Value.str (Str.ofString "cpy313.email.header") 289), dZ P "__firstlineno__" 444 (Value.int 81 443), dZ P "__init__" 454 (Value.ref 137), dZ P "push" 463 (Value.ref 144), dZ P "pop_from" 473 (Value.ref 152), dZ P "pop" 481 (Value.ref 160), dZ P "__len__" 488 (Value.ref 167), dZ P "__str__" 495 (Value.ref 174), dZ P "reset" 503 (Value.ref 182), dZ P "is_onlyws" 510 (Value.ref 189), dZ P "part_count" 518 (Value.ref 197), dZ P "__static_attributes__" 520 (Value.ref 198), dZ P "__dict__" 523 (Value.ref 201), dZ P "__weakref__" 525 (Value.ref 202), dZ P "__doc__" 526 (Value.none)] 5 }, { cls := Value.type "type", data := Data.cls { name := Str.ofString "_Accumulator", bases := [Value.type "list"], mro := [Value.ref 200, Value.type "list", Value.type "object"], ns := 199, qualname := Str.ofString "_Accumulator" }, slots := #[some (Value.ref 121), none, some (Value.str (Str.ofString "_Accumulator") 433), some (Value.str (Str.ofString "_Accumulator") 441), some (Value.builtin "list.__new__"), some (Value.bool true)] }, kO13 522 200, kO14 524 200, kO15 200, kO16 200, kO17 "Exception", { cls := Value.type "builtin_function_or_method", data := Data.fields #[Value.builtin "type.__prepare__", Value.type "type"] }, { cls := Value.type "dict", data := Data.dict #[dZ P "__module__" 538 (Value.str (Str.ofString "cpy313.ftplib") 529), dZ P "__qualname__" 540 (Value.str (Str.ofString "Error") 539), dZ P "__firstlineno__" 542 (Value.int 118 541), dZ P "__static_attributes__" 543 (Value.ref 212)] 4 }, { cls := Value.type "tuple", data := Data.seq #[] }, { cls := Value.none, data := Data.fields #[] }, kO0 "Error" 533 534 535 118 208 209 536 537, kO1 210 207 "cpy313.ftplib" 529, { cls := Value.type "tuple", data := Data.seq #[] }, { cls := Value.type "dict", data := Data.dict #[dZ P "__module__" 538 (Value.str (Str.ofString "cpy313.ftplib") 529), dZ P "__firstlineno__" 542 (Value.int 118 541), dZ P "__static_attributes__" 543 (Value.ref 212), dZ P "__weakref__" 545 (Value.ref 215), dZ P "__doc__" 546 (Value.none)] 3 }, { cls := Value.type "type", data := Data.cls { name := Str.ofString "Error", bases := [Value.type "Exception"], mro := [Value.ref 214, Value.type "Exception", Value.type "BaseException", Value.type "object"], ns := 213, qualname := Str.ofString "Error", subclasses := [Value.ref 227] }, slots := #[some (Value.ref 205), none, some (Value.str (Str.ofString "Error") 531), some (Value.str (Str.ofString "Error") 539), some (Value.builtin "Exception.__new__"), some (Value.bool true)] }, kO14 544 214, kO15 214, kO16 214, kO19 214, { cls := Value.type "builtin_function_or_method", data := Data.fields #[Value.builtin "type.__prepare__", Value.type "type"] }, { cls := Value.type "dict", data := Data.dict #[dZ P "__module__" 558 (Value.str (Str.ofString "cpy313.ftplib") 529), dZ P "__qualname__" 560 (Value.str (Str.ofString "error_reply") 559), dZ P "__firstlineno__" 562 (Value.int 120 561), dZ P "__static_attributes__" 563 (Value.ref 225)] 4 }, { cls := Value.type "tuple", data := Data.seq #[] }, { cls := Value.none, data := Data.fields #[] }, kO0 "error_reply" 553 554 555 120 221 222 556 557, kO1 223 220 "cpy313.ftplib" 529, { cls := Value.type "tuple", data := Data.seq #[] }, { cls := Value.type "dict", data := Data.dict #[dZ P "__module__" 558 (Value.str (Str.ofString "cpy313.ftplib") 529), dZ P "__firstlineno__" 562 (Value.int 120 561), dZ P "__static_attributes__" 563 (Value.ref 225), dZ P "__doc__" 564 (Value.none)] 2 }, { cls := Value.type "type", data := Data.cls { name := Str.ofString "error_reply", bases := [Value.ref 214], mro := [Value.ref 227, Value.ref 214, Value.type "Exception", Value.type "BaseException", Value.type "object"], ns := 226, qualname := Str.ofString "error_reply" }, slots := #[some (Value.ref 218), none, some (Value.str (Str.ofString "error_reply") 551), some (Value.str (Str.ofString "error_reply") 559), some (Value.builtin "Exception.__new__"), some (Value.bool true)] }, kO15 227, kO16 227, { cls := Value.type "tuple", data := Data.seq #[] }, { cls := Value.none, data := Data.fields #[] }, kO8 "resp" 570 "dirname" 571 "i" 572 "n" 573 "c" 574, { cls := Value.type "tuple", data := Data.seq #[] }, kO3 (pl 11) "parse257" "parse257", kO4 "parse257" 567 "parse257" 568 569 122 1 230 231 232 233 234 575 576, kO5 (pl 11) "parse257" "parse257" "cpy313.ftplib" 529 235, { cls := Value.type "tuple", data := Data.seq #[] }, { cls := Value.type "builtin_function_or_method", data := Data.fields #[Value.builtin "type.__prepare__", Value.type "type"] }, { cls := Value.type "dict", data := Data.dict #[dZ P "__module__" 587 (Value.str (Str.ofString "cpy313.netrc") 578), dZ P "__qualname__" 589 (Value.str (Str.ofString "_netrclex") 588), dZ P "__firstlineno__" 591 (Value.int 140 590), dZ P "__init__" 599 (Value.ref 250), dZ P "_read_char" 607 (Value.ref 257), dZ P "get_token" 617 (Value.ref 264), dZ P "push_token" 625 (Value.ref 271), dZ P "__static_attributes__" 630 (Value.ref 272)] 8 }, { cls := Value.type "tuple", data := Data.seq #[] }, { cls := Value.none, data := Data.fields #[Value.int 142 0, Value.int 4 0, Value.ref 249, Value.int 148 0, Value.int 4 0, Value.ref 256, Value.int 154 0, Value.int 4 0, Value.ref 263, Value.int 181 0, Value.int 4 0, Value.ref 270] }, kO0 "_netrclex" 582 583 584 140 240 241 585 586, kO1 242 239 "cpy313.netrc" 578, { cls := Value.type "tuple", data := Data.seq #[] }, { cls := Value.none, data := Data.fields #[] }, kO9 595 "fp" 596, { cls := Value.type "tuple", data := Data.seq #[] }, kO3 (ml 13 0) "__init__" "_netrclex.__init__", kO4 "__init__" 592 "_netrclex.__init__" 593 594 142 2 244 245 246 247 248 597 598, kO5 (ml 13 0) "__init__" "_netrclex.__init__" "cpy313.netrc" 578 249, { cls := Value.type "tuple", data := Data.seq #[] }, { cls := Value.none, data := Data.fields #[] }, kO9 603 "ch" 604, { cls := Value.type "tuple", data := Data.seq #[] }, kO3 (ml 13 1) "_read_char" "_netrclex._read_char", kO4 "_read_char" 600 "_netrclex._read_char" 601 602 148 1 251 252 253 254 255 605 606, kO5 (ml 13 1) "_read_char" "_netrclex._read_char" "cpy313.netrc" 578 256, { cls := Value.type "tuple", data := Data.seq #[] }, { cls := Value.none, data := Data.fields #[] }, kO10 "self" 611 "token" 612 "fiter" 613 "ch" 614, { cls := Value.type "tuple", data := Data.seq #[] }, kO3 (ml 13 2) "get_token" "_netrclex.get_token", kO4 "get_token" 608 "_netrclex.get_token" 609 610 154 1 258 259 260 261 262 615 616, kO5 (ml 13 2) "get_token" "_netrclex.get_token" "cpy313.netrc" 578 263, { cls := Value.type "tuple", data := Data.seq #[] }, { cls := Value.none, data := Data.fields #[] }, kO9 621 "token" 622, { cls := Value.type "tuple", data := Data.seq #[] }, kO3 (ml 13 3) "push_token" "_netrclex.push_token", kO4 "push_token" 618 "_netrclex.push_token" 619 620 181 2 265 266 267 268 269 623 624, kO5 (ml 13 3) "push_token" "_netrclex.push_token" "cpy313.netrc" 578 270, kO10 "instream" 626 "lineno" 627 "pushback" 628 "whitespace" 629, { cls := Value.type "dict", data := Data.dict #[dZ P "__module__" 587 (Value.str (Str.ofString "cpy313.netrc") 578), dZ P "__firstlineno__" 591 (Value.int 140 590), dZ P "__init__" 599 (Value.ref 250), dZ P "_read_char" 607 (Value.ref 257), dZ P "get_token" 617 (Value.ref 264), dZ P "push_token" 625 (Value.ref 271), dZ P "__static_attributes__" 630 (Value.ref 272), dZ P "__dict__" 632 (Value.ref 275), dZ P "__weakref__" 634 (Value.ref 276), dZ P "__doc__" 635 (Value.none)] 4 }, kO12 "_netrclex" 274 273 580 588, kO13 631 274, kO14 633 274, kO15 274, kO16 274] }
noncomputable def hc20 (P : Params) : Heap := { objs := #[h0_0 P, h0_1 P, { cls := Value.none, data := Data.dict #[dZ P "\x69mport.loaded._sre" 183 (Value.bool true), dZ P "class._frozen_importlib.BuiltinImporter" 185 (Value.ref 14), dZ P "watched.\x69mport" 206 (Value.ref 18), dZ P "class._frozen_importlib.ModuleSpec" 216 (Value.ref 22), dZ P "sys.modules.booked-epoch" 245 (Value.int 3 0), dZ P "\x69mport.later-laid._sre" 270 (Value.bool true), dZ P "watched.library" 272 (Value.ref 27), dZ P "watched.library-objects" 0 (Value.str (Str.ofString "\x0c") 0), dZ P "watched.library-deep._sre" 273 (Value.str (Str.ofString "\x04\x00\x00\x0b\x04\x00\x00\x0b\x04\x00\x00\x03\x04\x00\x00\x0b\x08\x04dict\x02") 0), dZ P "type.__subclasses__.Exception.0" 547 (Value.int 214 0), dZ P "type.__subclasses__.Exception.n" 548 (Value.int 1 0)] 11 }, { cls := Value.type "dict", data := Data.dict #[dZ P "__name__" 165 (Value.str (Str.ofString "law_wu0094_01") 682), dZ P "__doc__" 166 (Value.none), dZ P "__package__" 167 (Value.none), dZ P "__loader__" 168 (Value.builtin "__main__.__loader__#\x6fpaque"), dZ P "__spec__" 169 (Value.none), dZ P "__annotations__" 170 (Value.ref 6), dZ P "__builtins__" 171 (Value.ref 4), dZ P "__file__" 173 (Value.str (Str.ofString "/claim/cut.py") 172), dZ P "__cached__" 174 (Value.none), dZ P "_sre" 275 (Value.ref 12), dZ P "_wall" 288 (Value.ref 38), dZ P "_twin_re_1" 318 (Value.ref 43), dZ P "NL" 320 (Value.str (Str.ofString "\n") 319), dZ P "EMPTYSTRING" 322 (Value.str (Str.ofString "") 321), dZ P "_ValueFormatter" 432 (Value.ref 116), dZ P "_Accumulator" 528 (Value.ref 200), dZ P "Error" 550 (Value.ref 214), dZ P "error_reply" 566 (Value.ref 227), dZ P "parse257" 577 (Value.ref 236), dZ P "_netrclex" 637 (Value.ref 274), dZ P "_raise_serialization_error" 646 (Value.ref 285), dZ P "_escape_cdata" 653 (Value.ref 292), dZ P "_escape_attrib" 660 (Value.ref 299), dZ P "_escape_attrib_html" 667 (Value.ref 306), dZ P "_escape_cdata_c14n" 674 (Value.ref 313), dZ P "_escape_attrib_c14n" 681 (Value.ref 320)] 26 }, h0_4 P, h0_5 P, h0_6 P, h0_7 P, h0_8 P, h0_9 P, h0_10 P, h0_11 P, h0_12 P, h0_13 P, h0_14 P, h0_15 P, h0_16 P, h0_17 P, h0_18 P, h0_19 P, h0_20 P, h0_21 P, h0_22 P, h0_23 P, h0_24 P, h0_25 P, h0_26 P, h0_27 P, { cls := Value.type "tuple", data := Data.seq #[] }, { cls := Value.none, data := Data.fields #[Value.int 2 0, Value.int 0 0, Value.ref 37, Value.int 9 0, Value.int 0 0, Value.ref 49, Value.int 81 0, Value.int 0 0, Value.ref 127, Value.int 118 0, Value.int 0 0, Value.ref 210, Value.int 120 0, Value.int 0 0, Value.ref 223, Value.int 122 0, Value.int 0 0, Value.ref 235, Value.int 140 0, Value.int 0 0, Value.ref 242, Value.int 184 0, Value.int 0 0, Value.ref 284, Value.int 186 0, Value.int 0 0, Value.ref 291, Value.int 197 0, Value.int 0 0, Value.ref 298, Value.int 216 0, Value.int 0 0, Value.ref 305, Value.int 227 0, Value.int 0 0, Value.ref 312, Value.int 240 0, Value.int 0 0, Value.ref 319] }, kO0 "<module>" 277 278 279 1 28 29 280 281, kO1 30 3 "__main__" 164, { cls := Value.type "tuple", data := Data.seq #[] }, { cls := Value.none, data := Data.fields #[] }, kO2 "k" 285, { cls := Value.type "tuple", data := Data.seq #[] }, kO3 (pl 1) "_wall" "_wall", kO4 "_wall" 282 "_wall" 283 284 2 1 32 33 34 35 36 286 287, kO5 (pl 1) "_wall" "_wall" "__main__" 164 37, kO6 "list" 294 295 296 297 298 299 300 301 302 303 304 305 306 307 308 309 310 311 312 313 314 315, { cls := Value.type "dict", data := Data.dict #[] }, { cls := Value.type "tuple", data := Data.seq #[Value.none, Value.none] }, kO6 "tuple" 0 0 0 0 0 0 0 0 0 0 0 0 0 0 0 0 0 0 0 0 0 0, { cls := Value.type "re.Pattern", data := Data.fields #[Value.str (Str.ofString "([ \t]+)") 292, Value.int 32 317, Value.int 1 0, Value.none, Value.none, Value.ref 42, Value.int 0 0] }, { cls := Value.type "tuple", data := Data.seq #[] }, { cls := Value.type "builtin_function_or_method", data := Data.fields #[Value.builtin "type.__prepare__", Value.type "type"] }, { cls := Value.type "dict", data := Data.dict #[dZ P "__module__" 330 (Value.str (Str.ofString "cpy313.email.header") 289), dZ P "__qualname__" 332 (Value.str (Str.ofString "_ValueFormatter") 331), dZ P "__firstlineno__" 334 (Value.int 9 333), dZ P "__init__" 345 (Value.ref 57), dZ P "_str" 353 (Value.ref 64), dZ P "__str__" 360 (Value.ref 71), dZ P "newline" 368 (Value.ref 78), dZ P "add_transition" 375 (Value.ref 85), dZ P "feed" 385 (Value.ref 92), dZ P "_maxlengths" 392 (Value.ref 99), dZ P "_ascii_split" 404 (Value.ref 106), dZ P "_append_chunk" 418 (Value.ref 113), dZ P "__static_attributes__" 425 (Value.ref 114)] 13 }, { cls := Value.type "tuple", data := Data.seq #[] }, kO7 11 56 19 63 23 70 26 77 37 84 40 91 43 98 46 105 55 112, kO0 "_ValueFormatter" 325 326 327 9 47 48 328 329, kO1 49 46 "cpy313.email.header" 289, { cls := Value.type "tuple", data := Data.seq #[] }, { cls := Value.none, data := Data.fields #[] }, kO8 "self" 338 "headerlen" 339 "maxlen" 340 "continuation_ws" 341 "splitchars" 342, { cls := Value.type "tuple", data := Data.seq #[] }, kO3 (ml 6 0) "__init__" "_ValueFormatter.__init__", kO4 "__init__" 335 "_ValueFormatter.__init__" 336 337 11 5 51 52 53 54 55 343 344, kO5 (ml 6 0) "__init__" "_ValueFormatter.__init__" "cpy313.email.header" 289 56, { cls := Value.type "tuple", data := Data.seq #[] }, { cls := Value.none, data := Data.fields #[] }, kO9 349 "linesep" 350, { cls := Value.type "tuple", data := Data.seq #[] }, kO3 (ml 6 1) "_str" "_ValueFormatter._str", kO4 "_str" 346 "_ValueFormatter._str" 347 348 19 2 58 59 60 61 62 351 352, kO5 (ml 6 1) "_str" "_ValueFormatter._str" "cpy313.email.header" 289 63, { cls := Value.type "tuple", data := Data.seq #[] }, { cls := Value.none, data := Data.fields #[] }, kO2 "self" 357, { cls := Value.type "tuple", data := Data.seq #[] }, kO3 (ml 6 2) "__str__" "_ValueFormatter.__str__", kO4 "__str__" 354 "_ValueFormatter.__str__" 355 356 23 1 65 66 67 68 69 358 359, kO5 (ml 6 2) "__str__" "_ValueFormatter.__str__" "cpy313.email.header" 289 70, { cls := Value.type "tuple", data := Data.seq #[] }, { cls := Value.none, data := Data.fields #[] }, kO9 364 "end_of_line" 365, { cls := Value.type "tuple", data := Data.seq #[] }, kO3 (ml 6 3) "newline" "_ValueFormatter.newline", kO4 "newline" 361 "_ValueFormatter.newline" 362 363 26 1 72 73 74 75 76 366 367, kO5 (ml 6 3) "newline" "_ValueFormatter.newline" "cpy313.email.header" 289 77, { cls := Value.type "tuple", data := Data.seq #[] }, { cls := Value.none, data := Data.fields #[] }, kO2 "self" 372, { cls := Value.type "tuple", data := Data.seq #[] }, kO3 (ml 6 4) "add_transition" "_ValueFormatter.add_transition", kO4 "add_transition" 369 "_ValueFormatter.add_transition" 370 371 37 1 79 80 81 82 83 373 374, kO5 (ml 6 4) "add_transition" "_ValueFormatter.add_transition" "cpy313.email.header" 289 84, { cls := Value.type "tuple", data := Data.seq #[] }, { cls := Value.none, data := Data.fields #[] }, kO10 "self" 379 "fws" 380 "string" 381 "charset" 382, { cls := Value.type "tuple", data := Data.seq #[] }, kO3 (ml 6 5) "feed" "_ValueFormatter.feed", kO4 "feed" 376 "_ValueFormatter.feed" 377 378 40 4 86 87 88 89 90 383 384, kO5 (ml 6 5) "feed" "_ValueFormatter.feed" "cpy313.email.header" 289 91, { cls := Value.type "tuple", data := Data.seq #[] }, { cls := Value.none, data := Data.fields #[] }, kO2 "self" 389, { cls := Value.type "tuple", data := Data.seq #[] }, kO3 (ml 6 6) "_maxlengths" "_ValueFormatter._maxlengths", kO4 "_maxlengths" 386 "_ValueFormatter._maxlengths" 387 388 43 1 93 94 95 96 97 390 391, kO5 (ml 6 6) "_maxlengths" "_ValueFormatter._maxlengths" "cpy313.email.header" 289 98, { cls := Value.type "tuple", data := Data.seq #[] }, { cls := Value.none, data := Data.fields #[] }, kO11 "self" 396 "fws" 397 "string" 398 "splitchars" 399 "parts" 400 "part" 401, { cls := Value.type "tuple", data := Data.seq #[] }, kO3 (ml 6 7) "_ascii_split" "_ValueFormatter._ascii_split", kO4 "_ascii_split" 393 "_ValueFormatter._ascii_split" 394 395 46 4 100 101 102 103 104 402 403, kO5 (ml 6 7) "_ascii_split" "_ValueFormatter._ascii_split" "cpy313.email.header" 289 105, { cls := Value.type "tuple", data := Data.seq #[] }, { cls := Value.none, data := Data.fields #[] }, { cls := Value.type "tuple", data := Data.seq #[Value.str (Str.ofString "self") 408, Value.str (Str.ofString "fws") 409, Value.str (Str.ofString "string") 410, Value.str (Str.ofString "ch") 411, Value.str (Str.ofString "i") 412, Value.str (Str.ofString "prevpart") 413, Value.str (Str.ofString "part") 414, Value.str (Str.ofString "remainder") 415] }, { cls := Value.type "tuple", data := Data.seq #[] }, kO3 (ml 6 8) "_append_chunk" "_ValueFormatter._append_chunk", kO4 "_append_chunk" 405 "_ValueFormatter._append_chunk" 406 407 55 3 107 108 109 110 111 416 417, kO5 (ml 6 8) "_append_chunk" "_ValueFormatter._append_chunk" "cpy313.email.header" 289 112, kO11 "_continuation_ws" 419 "_continuation_ws_len" 420 "_current_line" 421 "_lines" 422 "_maxlen" 423 "_splitchars" 424, { cls := Value.type "dict", data := Data.dict #[dZ P "__module__" 330 (Value.str (Str.ofString "cpy313.email.header") 289), dZ P "__firstlineno__" 334 (Value.int 9 333), dZ P "__init__" 345 (Value.ref 57), dZ P "_str" 353 (Value.ref 64), dZ P "__str__" 360 (Value.ref 71), dZ P "newline" 368 (Value.ref 78), dZ P "add_transition" 375 (Value.ref 85), dZ P "feed" 385 (Value.ref 92), dZ P "_maxlengths" 392 (Value.ref 99), dZ P "_ascii_split" 404 (Value.ref 106), dZ P "_append_chunk" 418 (Value.ref 113), dZ P "__static_attributes__" 425 (Value.ref 114), dZ P "__dict__" 427 (Value.ref 117), dZ P "__weakref__" 429 (Value.ref 118), dZ P "__doc__" 430 (Value.none)] 4 }, kO12 "_ValueFormatter" 116 115 323 331, kO13 426 116, kO14 428 116, kO15 116, kO16 116, kO17 "list", { cls := Value.type "builtin_function_or_method", data := Data.fields #[Value.builtin "type.__prepare__", Value.type "type"] }, { cls := Value.type "dict", data := Data.dict #[dZ P "__module__" 440 (Value.str (Str.ofString "cpy313.email.header") 289), dZ P "__qualname__" 442 (Value.str (Str.ofString "_Accumulator") 441), dZ P "__firstlineno__" 444 (Value.int 81 443), dZ P "__init__" 454 (Value.ref 137), dZ P "push" 463 (Value.ref 144), dZ P "pop_from" 473 (Value.ref 152), dZ P "pop" 481 (Value.ref 160), dZ P "__len__" 488 (Value.ref 167), dZ P "__str__" 495 (Value.ref 174), dZ P "reset" 503 (Value.ref 182), dZ P "is_onlyws" 510 (Value.ref 189), dZ P "part_count" 518 (Value.ref 197), dZ P "__static_attributes__" 520 (Value.ref 198), dZ P "__classcell__" 521 (Value.ref 124)] 14 }, { cls := Value.type "cell", data := Data.cell (some (Value.ref 200)) }, { cls := Value.type "tuple", data := Data.seq #[] }, kO7 83 136 87 143 90 151 95 159 100 166 103 173 106 181 112 188 115 196, kO0 "_Accumulator" 435 436 437 81 125 126 438 439, kO1 127 123 "cpy313.email.header" 289, kO18 445, kO19 124, kO2 "__class__" 449, { cls := Value.none, data := Data.fields #[] }, kO9 450 "initial_size" 451, { cls := Value.type "tuple", data := Data.seq #[] }, kO3 (ml 7 0) "__init__" "_Accumulator.__init__", kO4 "__init__" 446 "_Accumulator.__init__" 447 448 83 2 131 132 133 134 135 452 453, fo (ml 7 0) fun a b sc => { cls := Value.type "function", data := Data.func { name := Str.ofString "__init__", qualname := Str.ofString "_Accumulator.__init__", params := a, body := FuncBody.stmts b, scope := sc, globals := 3, closure := [(Str.ofString "__class__", 124)], defaults := Value.ref 129, kwdefaults := Value.none, pyModule := Value.str (Str.ofString "cpy313.email.header") 289, code := Value.ref 136, closureTuple := Value.ref 130 } }, { cls := Value.type "tuple", data := Data.seq #[] }, { cls := Value.none, data := Data.fields #[] }, kO20 458 "fws" 459 "string" 460, { cls := Value.type "tuple", data := Data.seq #[] }, kO3 (ml 7 1) "push" "_Accumulator.push", kO4 "push" 455 "_Accumulator.push" 456 457 87 3 138 139 140 141 142 461 462, kO5 (ml 7 1) "push" "_Accumulator.push" "cpy313.email.header" 289 143, kO18 464, { cls := Value.type "tuple", data := Data.seq #[] }, { cls := Value.none, data := Data.fields #[] }, kO20 468 "i" 469 "popped" 470, { cls := Value.type "tuple", data := Data.seq #[] }, kO3 (ml 7 2) "pop_from" "_Accumulator.pop_from", kO4 "pop_from" 465 "_Accumulator.pop_from" 466 467 90 2 146 147 148 149 150 471 472, kO21 (ml 7 2) "pop_from" "_Accumulator.pop_from" 145 151, kO19 124, kO2 "__class__" 477, { cls := Value.none, data := Data.fields #[] }, kO2 "self" 478, { cls := Value.type "tuple", data := Data.seq #[] }, kO3 (ml 7 3) "pop" "_Accumulator.pop", kO4 "pop" 474 "_Accumulator.pop" 475 476 95 1 154 155 156 157 158 479 480, kO22 (ml 7 3) "pop" "_Accumulator.pop" 159 153, { cls := Value.type "tuple", data := Data.seq #[] }, { cls := Value.none, data := Data.fields #[] }, kO2 "self" 485, { cls := Value.type "tuple", data := Data.seq #[] }, kO3 (ml 7 4) "__len__" "_Accumulator.__len__", kO4 "__len__" 482 "_Accumulator.__len__" 483 484 100 1 161 162 163 164 165 486 487, kO5 (ml 7 4) "__len__" "_Accumulator.__len__" "cpy313.email.header" 289 166, { cls := Value.type "tuple", data := Data.seq #[] }, { cls := Value.none, data := Data.fields #[] }, kO2 "self" 492, { cls := Value.type "tuple", data := Data.seq #[] }, kO3 (ml 7 5) "__str__" "_Accumulator.__str__", kO4 "__str__" 489 "_Accumulator.__str__" 490 491 103 1 168 169 170 171 172 493 494, kO5 (ml 7 5) "__str__" "_Accumulator.__str__" "cpy313.email.header" 289 173, { cls := Value.type "tuple", data := Data.seq #[Value.none] }, { cls := Value.type "tuple", data := Data.seq #[] }, { cls := Value.none, data := Data.fields #[] }, kO9 499 "startval" 500, { cls := Value.type "tuple", data := Data.seq #[] }, kO3 (ml 7 6) "reset" "_Accumulator.reset", kO4 "reset" 496 "_Accumulator.reset" 497 498 106 2 176 177 178 179 180 501 502, kO21 (ml 7 6) "reset" "_Accumulator.reset" 175 181, { cls := Value.type "tuple", data := Data.seq #[] }, { cls := Value.none, data := Data.fields #[] }, kO2 "self" 507, { cls := Value.type "tuple", data := Data.seq #[] }, kO3 (ml 7 7) "is_onlyws" "_Accumulator.is_onlyws", kO4 "is_onlyws" 504 "_Accumulator.is_onlyws" 505 506 112 1 183 184 185 186 187 508 509, kO5 (ml 7 7) "is_onlyws" "_Accumulator.is_onlyws" "cpy313.email.header" 289 188, kO19 124, kO2 "__class__" 514, { cls := Value.none, data := Data.fields #[] }, kO2 "self" 515, { cls := Value.type "tuple", data := Data.seq #[] }, kO3 (ml 7 8) "part_count" "_Accumulator.part_count", kO4 "part_count" 511 "_Accumulator.part_count" 512 513 115 1 191 192 193 194 195 516 517, kO22 (ml 7 8) "part_count" "_Accumulator.part_count" 196 190, kO2 "_initial_size" 519, { cls := Value.type "dict", data := Data.dict #[dZ P "__module__" 440 (Value.str (Str.ofString "cpy313.email.header") 289), dZ P "__firstlineno__" 444 (Value.int 81 443), dZ P "__init__" 454 (Value.ref 137), dZ P "push" 463 (Value.ref 144), dZ P "pop_from" 473 (Value.ref 152), dZ P "pop" 481 (Value.ref 160), dZ P "__len__" 488 (Value.ref 167), dZ P "__str__" 495 (Value.ref 174), dZ P "reset" 503 (Value.ref 182), dZ P "is_onlyws" 510 (Value.ref 189), dZ P "part_count" 518 (Value.ref 197), dZ P "__static_attributes__" 520 (Value.ref 198), dZ P "__dict__" 523 (Value.ref 201), dZ P "__weakref__" 525 (Value.ref 202), dZ P "__doc__" 526 (Value.none)] 5 }, { cls := Value.type "type", data := Data.cls { name := Str.ofString "_Accumulator", bases := [Value.type "list"], mro := [Value.ref 200, Value.type "list", Value.type "object"], ns := 199, qualname := Str.ofString "_Accumulator" }, slots := #[some (Value.ref 121), none, some (Value.str (Str.ofString "_Accumulator") 433), some (Value.str (Str.ofString "_Accumulator") 441), some (Value.builtin "list.__new__"), some (Value.bool true)] }, kO13 522 200, kO14 524 200, kO15 200, kO16 200, kO17 "Exception", { cls := Value.type "builtin_function_or_method", data := Data.fields #[Value.builtin "type.__prepare__", Value.type "type"] }, { cls := Value.type "dict", data := Data.dict #[dZ P "__module__" 538 (Value.str (Str.ofString "cpy313.ftplib") 529), dZ P "__qualname__" 540 (Value.str (Str.ofString "Error") 539), dZ P "__firstlineno__" 542 (Value.int 118 541), dZ P "__static_attributes__" 543 (Value.ref 212)] 4 }, { cls := Value.type "tuple", data := Data.seq #[] }, { cls := Value.none, data := Data.fields #[] }, kO0 "Error" 533 534 535 118 208 209 536 537, kO1 210 207 "cpy313.ftplib" 529, { cls := Value.type "tuple", data := Data.seq #[] }, { cls := Value.type "dict", data := Data.dict #[dZ P "__module__" 538 (Value.str (Str.ofString "cpy313.ftplib") 529), dZ P "__firstlineno__" 542 (Value.int 118 541), dZ P "__static_attributes__" 543 (Value.ref 212), dZ P "__weakref__" 545 (Value.ref 215), dZ P "__doc__" 546 (Value.none)] 3 }, { cls := Value.type "type", data := Data.cls { name := Str.ofString "Error", bases := [Value.type "Exception"], mro := [Value.ref 214, Value.type "Exception", Value.type "BaseException", Value.type "object"], ns := 213, qualname := Str.ofString "Error", subclasses := [Value.ref 227] }, slots := #[some (Value.ref 205), none, some (Value.str (Str.ofString "Error") 531), some (Value.str (Str.ofString "Error") 539), some (Value.builtin "Exception.__new__"), some (Value.bool true)] }, kO14 544 214, kO15 214, kO16 214, kO19 214, { cls := Value.type "builtin_function_or_method", data := Data.fields #[Value.builtin "type.__prepare__", Value.type "type"] }, { cls := Value.type "dict", data := Data.dict #[dZ P "__module__" 558 (Value.str (Str.ofString "cpy313.ftplib") 529), dZ P "__qualname__" 560 (Value.str (Str.ofString "error_reply") 559), dZ P "__firstlineno__" 562 (Value.int 120 561), dZ P "__static_attributes__" 563 (Value.ref 225)] 4 }, { cls := Value.type "tuple", data := Data.seq #[] }, { cls := Value.none, data := Data.fields #[] }, kO0 "error_reply" 553 554 555 120 221 222 556 557, kO1 223 220 "cpy313.ftplib" 529, { cls := Value.type "tuple", data := Data.seq #[] }, { cls := Value.type "dict", data := Data.dict #[dZ P "__module__" 558 (Value.str (Str.ofString "cpy313.ftplib") 529), dZ P "__firstlineno__" 562 (Value.int 120 561), dZ P "__static_attributes__" 563 (Value.ref 225), dZ P "__doc__" 564 (Value.none)] 2 }, { cls := Value.type "type", data := Data.cls { name := Str.ofString "error_reply", bases := [Value.ref 214], mro := [Value.ref 227, Value.ref 214, Value.type "Exception", Value.type "BaseException", Value.type "object"], ns := 226, qualname := Str.ofString "error_reply" }, slots := #[some (Value.ref 218), none, some (Value.str (Str.ofString "error_reply") 551), some (Value.str (Str.ofString "error_reply") 559), some (Value.builtin "Exception.__new__"), some (Value.bool true)] }, kO15 227, kO16 227, { cls := Value.type "tuple", data := Data.seq #[] }, { cls := Value.none, data := Data.fields #[] }, kO8 "resp" 570 "dirname" 571 "i" 572 "n" 573 "c" 574, { cls := Value.type "tuple", data := Data.seq #[] }, kO3 (pl 11) "parse257" "parse257", kO4 "parse257" 567 "parse257" 568 569 122 1 230 231 232 233 234 575 576, kO5 (pl 11) "parse257" "parse257" "cpy313.ftplib" 529 235, { cls := Value.type "tuple", data := Data.seq #[] }, { cls := Value.type "builtin_function_or_method", data := Data.fields #[Value.builtin "type.__prepare__", Value.type "type"] }, { cls := Value.type "dict", data := Data.dict #[dZ P "__module__" 587 (Value.str (Str.ofString "cpy313.netrc") 578), dZ P "__qualname__" 589 (Value.str (Str.ofString "_netrclex") 588), dZ P "__firstlineno__" 591 (Value.int 140 590), dZ P "__init__" 599 (Value.ref 250), dZ P "_read_char" 607 (Value.ref 257), dZ P "get_token" 617 (Value.ref 264), dZ P "push_token" 625 (Value.ref 271), dZ P "__static_attributes__" 630 (Value.ref 272)] 8 }, { cls := Value.type "tuple", data := Data.seq #[] }, { cls := Value.none, data := Data.fields #[Value.int 142 0, Value.int 4 0, Value.ref 249, Value.int 148 0, Value.int 4 0, Value.ref 256, Value.int 154 0, Value.int 4 0, Value.ref 263, Value.int 181 0, Value.int 4 0, Value.ref 270] }, kO0 "_netrclex" 582 583 584 140 240 241 585 586, kO1 242 239 "cpy313.netrc" 578, { cls := Value.type "tuple", data := Data.seq #[] }, { cls := Value.none, data := Data.fields #[] }, kO9 595 "fp" 596, { cls := Value.type "tuple", data := Data.seq #[] }, kO3 (ml 13 0) "__init__" "_netrclex.__init__", kO4 "__init__" 592 "_netrclex.__init__" 593 594 142 2 244 245 246 247 248 597 598, kO5 (ml 13 0) "__init__" "_netrclex.__init__" "cpy313.netrc" 578 249, { cls := Value.type "tuple", data := Data.seq #[] }, { cls := Value.none, data := Data.fields #[] }, kO9 603 "ch" 604, { cls := Value.type "tuple", data := Data.seq #[] }, kO3 (ml 13 1) "_read_char" "_netrclex._read_char", kO4 "_read_char" 600 "_netrclex._read_char" 601 602 148 1 251 252 253 254 255 605 606, kO5 (ml 13 1) "_read_char" "_netrclex._read_char" "cpy313.netrc" 578 256, { cls := Value.type "tuple", data := Data.seq #[] }, { cls := Value.none, data := Data.fields #[] }, kO10 "self" 611 "token" 612 "fiter" 613 "ch" 614, { cls := Value.type "tuple", data := Data.seq #[] }, kO3 (ml 13 2) "get_token" "_netrclex.get_token", kO4 "get_token" 608 "_netrclex.get_token" 609 610 154 1 258 259 260 261 262 615 616, kO5 (ml 13 2) "get_token" "_netrclex.get_token" "cpy313.netrc" 578 263, { cls := Value.type "tuple", data := Data.seq #[] }, { cls := Value.none, data := Data.fields #[] }, kO9 621 "token" 622, { cls := Value.type "tuple", data := Data.seq #[] }, kO3 (ml 13 3) "push_token" "_netrclex.push_token", kO4 "push_token" 618 "_netrclex.push_token" 619 620 181 2 265 266 267 268 269 623 624, kO5 (ml 13 3) "push_token" "_netrclex.push_token" "cpy313.netrc" 578 270, kO10 "instream" 626 "lineno" 627 "pushback" 628 "whitespace" 629, { cls := Value.type "dict", data := Data.dict #[dZ P "__module__" 587 (Value.str (Str.ofString "cpy313.netrc") 578), dZ P "__firstlineno__" 591 (Value.int 140 590), dZ P "__init__" 599 (Value.ref 250), dZ P "_read_char" 607 (Value.ref 257), dZ P "get_token" 617 (Value.ref 264), dZ P "push_token" 625 (Value.ref 271), dZ P "__static_attributes__" 630 (Value.ref 272), dZ P "__dict__" 632 (Value.ref 275), dZ P "__weakref__" 634 (Value.ref 276), dZ P "__doc__" 635 (Value.none)] 4 }, kO12 "_netrclex" 274 273 580 588, kO13 631 274, kO14 633 274, kO15 274, kO16 274, { cls := Value.type "tuple", data := Data.seq #[] }, { cls := Value.none, data := Data.fields #[] }, kO2 "text" 643, { cls := Value.type "tuple", data := Data.seq #[] }, kO3 (pl 15) "_raise_serialization_error" "_raise_serialization_error", kO4 "_raise_serialization_error" 640 "_raise_serialization_error" 641 642 184 1 279 280 281 282 283 644 645, kO5 (pl 15) "_raise_serialization_error" "_raise_serialization_error" "cpy313.xml.etree.ElementTree" 638 284, { cls := Value.type "tuple", data := Data.seq #[] }, { cls := Value.none, data := Data.fields #[] }, kO2 "text" 650, { cls := Value.type "tuple", data := Data.seq #[] }, kO3 (pl 16) "_escape_cdata" "_escape_cdata", kO4 "_escape_cdata" 647 "_escape_cdata" 648 649 186 1 286 287 288 289 290 651 652, kO5 (pl 16) "_escape_cdata" "_escape_cdata" "cpy313.xml.etree.ElementTree" 638 291, { cls := Value.type "tuple", data := Data.seq #[] }, { cls := Value.none, data := Data.fields #[] }, kO2 "text" 657, { cls := Value.type "tuple", data := Data.seq #[] }, kO3 (pl 17) "_escape_attrib" "_escape_attrib", kO4 "_escape_attrib" 654 "_escape_attrib" 655 656 197 1 293 294 295 296 297 658 659, kO5 (pl 17) "_escape_attrib" "_escape_attrib" "cpy313.xml.etree.ElementTree" 638 298, { cls := Value.type "tuple", data := Data.seq #[] }, { cls := Value.none, data := Data.fields #[] }, kO2 "text" 664, { cls := Value.type "tuple", data := Data.seq #[] }, kO3 (pl 18) "_escape_attrib_html" "_escape_attrib_html", kO4 "_escape_attrib_html" 661 "_escape_attrib_html" 662 663 216 1 300 301 302 303 304 665 666, kO5 (pl 18) "_escape_attrib_html" "_escape_attrib_html" "cpy313.xml.etree.ElementTree" 638 305, { cls := Value.type "tuple", data := Data.seq #[] }, { cls := Value.none, data := Data.fields #[] }, kO2 "text" 671, { cls := Value.type "tuple", data := Data.seq #[] }, kO3 (pl 19) "_escape_cdata_c14n" "_escape_cdata_c14n", kO4 "_escape_cdata_c14n" 668 "_escape_cdata_c14n" 669 670 227 1 307 308 309 310 311 672 673, kO5 (pl 19) "_escape_cdata_c14n" "_escape_cdata_c14n" "cpy313.xml.etree.ElementTree" 638 312, { cls := Value.type "tuple", data := Data.seq #[] }, { cls := Value.none, data := Data.fields #[] }, kO2 "text" 678, { cls := Value.type "tuple", data := Data.seq #[] }, kO3 (pl 20) "_escape_attrib_c14n" "_escape_attrib_c14n", kO4 "_escape_attrib_c14n" 675 "_escape_attrib_c14n" 676 677 240 1 314 315 316 317 318 679 680, kO5 (pl 20) "_escape_attrib_c14n" "_escape_attrib_c14n" "cpy313.xml.etree.ElementTree" 638 319] }
noncomputable def bd : List Stmt := behindTheImports Pg
noncomputable def eN : Env := { scope := Pg.main.scope, locals := mainNs, globals := mainNs, cells := [], code := .ref 30, frame := some 31 }
noncomputable def cB : Code := .body bd eN
noncomputable abbrev sh (H : Params → Heap) (k : Nat) (w : World) (os : OsState) : Shared := ⟨H w.params, #[], {}, k, os⟩
noncomputable abbrev q0 : Pos := ⟨0, 0, 0, 0⟩
theorem c_size : ∀ w : World, ((h0 w.params).isNs mainGlobals && (#[] : Array GenState).size == 0, (h0 w.params).objs.size, (h0 w.params).nsMap mainGlobals "__annotations__") = (true, 28, some (.ref 6)) := by
  intro w
  kernel_rfl
theorem c_pre : ∀ (w : World) (os : OsState), topGo treeTable Pg w 28 (some (.ref 6)) 12 (sh h0 276 w os) (topStub Pg) = some (sh ha 282 w os, ⟨denote treeTable cB, cB, q0, [topFrame q0]⟩) := by
  intro w os
  kernel_rfl
theorem c_blk : ∀ (w : World) (os : OsState), segRun treeTable Pg w 28 (some (.ref 6)) 1 1 (sh ha 282 w os) (blockOf bd eN cB q0 [topFrame q0]) = some (.next, sh ha 282 w os, cB, q0) := by
  intro w os
  kernel_rfl
theorem c_5 : ∀ (w : World) (os : OsState), segRun treeTable Pg w 28 (some (.ref 6)) 1 632 (sh ha 282 w os) (piecesOf ((bd.drop 0).take 6) eN cB q0 [topFrame q0]) = some (.next, sh hc5 433 w os, cB, ⟨9, 0, 80, 47⟩) := by
  intro w os
  kernel_rfl
theorem c_6 : ∀ (w : World) (os : OsState), segRun treeTable Pg w 28 (some (.ref 6)) 1 514 (sh hc5 433 w os) (piecesOf ((bd.drop 6).take 1) eN cB (⟨9, 0, 80, 47⟩ : Pos) [topFrame q0]) = some (.next, sh hc6 529 w os, cB, ⟨81, 0, 116, 32⟩) := by
  intro w os
  kernel_rfl
theorem c_9 : ∀ (w : World) (os : OsState), segRun treeTable Pg w 28 (some (.ref 6)) 1 428 (sh hc6 529 w os) (piecesOf ((bd.drop 7).take 3) eN cB (⟨81, 0, 116, 32⟩ : Pos) [topFrame q0]) = some (.next, sh hc9 567 w os, cB, ⟨120, 0, 121, 8⟩) := by
  intro w os
  kernel_rfl
theorem c_12 : ∀ (w : World) (os : OsState), segRun treeTable Pg w 28 (some (.ref 6)) 1 375 (sh hc9 567 w os) (piecesOf ((bd.drop 10).take 3) eN cB (⟨120, 0, 121, 8⟩ : Pos) [topFrame q0]) = some (.next, sh hc12 638 w os, cB, ⟨140, 0, 182, 16⟩) := by
  intro w os
  kernel_rfl
theorem c_20 : ∀ (w : World) (os : OsState), segRun treeTable Pg w 28 (some (.ref 6)) 1 202 (sh hc12 638 w os) (piecesOf ((bd.drop 13).take 8) eN cB (⟨140, 0, 182, 16⟩ : Pos) [topFrame q0]) = some (.next, sh hc20 684 w os, cB, ⟨257, 0, 257, 8⟩) := by
  intro w os
  kernel_rfl
theorem left_cut {q : Program} {loose : List Str} {Xt : Shared → Bool} {α : Type} {Yf : Shared → α} {Ya : World → α}
    (fin : ∀ (w : World) (os : OsState), ((topRun treeTable Pg w 28 (some (.ref 6)) 331 (sh hc20 684 w os) (restOf (bd.drop 21) eN cB (⟨257, 0, 257, 8⟩ : Pos) [topFrame q0])).bind fun s₁ => match staticsOk (importedModules Pg.main.body) (h0 w.params) s₁.heap && namesBound Pg s₁.heap && gensDone s₁ && laidKept (h0 w.params) s₁.heap with
      | true => some s₁
      | false => none).map (fun s => (openSeen q loose (importedModules Pg.main.body) Xt true s, Yf s)) = some (openGood q loose, Ya w)) : LeftO Pg q loose Xt Yf Ya 4844 :=
  left_of_open h0_open fun w os => by
    obtain ⟨z1, z2, z3⟩ : _ ∧ _ ∧ _ := by simpa only [Prod.mk.injEq] using c_size w
    have f := fin w os
    generalize ht : topRun treeTable Pg w 28 (some (.ref 6)) 331 (sh hc20 684 w os) (restOf (bd.drop 21) eN cB (⟨257, 0, 257, 8⟩ : Pos) [topFrame q0]) = o at f
    cases o with
    | none => cases f
    | some r =>
      have e0 := ht
      have e1 := piece_app (c_20 w os) e0
      rw [show (bd.drop 13).take 8 ++ bd.drop 21 = bd.drop 13 from by rw [← List.drop_drop (i := 8)]; exact List.take_append_drop _ _] at e1
      have e2 := piece_app (c_12 w os) e1
      rw [show (bd.drop 10).take 3 ++ bd.drop 13 = bd.drop 10 from by rw [← List.drop_drop (i := 3)]; exact List.take_append_drop _ _] at e2
      have e3 := piece_app (c_9 w os) e2
      rw [show (bd.drop 7).take 3 ++ bd.drop 10 = bd.drop 7 from by rw [← List.drop_drop (i := 3)]; exact List.take_append_drop _ _] at e3
      have e4 := piece_app (c_6 w os) e3
      rw [show (bd.drop 6).take 1 ++ bd.drop 7 = bd.drop 6 from by rw [← List.drop_drop (i := 1)]; exact List.take_append_drop _ _] at e4
      have e5 := piece_app (c_5 w os) e4
      rw [show (bd.drop 0).take 6 ++ bd.drop 6 = bd from List.take_append_drop _ _] at e5
      have e := topRun_mono 2349 _ _ _ _ (go_top (c_pre w os) (piece_block (c_blk w os) e5))
      unfold topFrom
      dsimp only
      rw [z1, z2, z3, e]
      exact f
noncomputable def vw : Program := { PySem.Challenge.rw_wu0094_01.row.prog with main := { PySem.Challenge.rw_wu0094_01.row.prog.main with body := PySem.Challenge.rw_wu0094_01.row.prog.main.body.take 1 ++ PySem.Challenge.rw_wu0094_01.row.prog.main.body.drop 30 } }
noncomputable abbrev lss : List Str := [Str.ofString "_wall", Str.ofString "_twin_re_1", Str.ofString "NL", Str.ofString "EMPTYSTRING", Str.ofString "_ValueFormatter", Str.ofString "_Accumulator", Str.ofString "Error", Str.ofString "error_reply", Str.ofString "parse257", Str.ofString "_netrclex", Str.ofString "_raise_serialization_error", Str.ofString "_escape_cdata", Str.ofString "_escape_attrib", Str.ofString "_escape_attrib_html", Str.ofString "_escape_cdata_c14n", Str.ofString "_escape_attrib_c14n", Str.ofString "_law_drawn", Str.ofString "_law_by_hand", Str.ofString "_law_table", Str.ofString "_law_words", Str.ofString "_law_stream", Str.ofString "_law_cut_by_header", Str.ofString "_law_cut_by_netrc", Str.ofString "_law_name_by_netrc"]
theorem own_head (H : Hook) {d : DefRec} {kwd : List (Str × Expr)}
    (left : LeftO PySem.Challenge.rw_wu0094_01.row.prog vw lss (fun s => xlAt vw [] s && recOk (RowW.records PySem.Challenge.rw_wu0094_01.row.toRowW) s) H.obs H.val 4844)
    (hdef : defOf vw PySem.Challenge.rw_wu0094_01.row.name = some (d, kwd)) (hp : (PySem.Challenge.rw_wu0094_01.row.prog).theDef PySem.Challenge.rw_wu0094_01.row.name = some (d.params, d.body, d.scope)) (hk : kwWritten? d.params.kwonlyargs d.params.kw_defaults = some kwd) (hwr : (!PySem.Challenge.rw_wu0094_01.row.writes || PySem.Challenge.rw_wu0094_01.row.records.isEmpty) = true)
    (k1 : PySem.Challenge.rw_wu0094_01.row.wellSaid = true) (ok : (chainsOk vw && opensWell PySem.Challenge.rw_wu0094_01.row.prog && (frees PySem.Challenge.rw_wu0094_01.row.toRowW && PySem.Challenge.rw_wu0094_01.row.within.isEmpty)) = true) (hb : PySem.Challenge.rw_wu0094_01.row.prog.bare) (hw : PySem.Challenge.rw_wu0094_01.row.toRowW.promised)
    (call : WalkO vw lss (XL vw []) H.says PySem.Challenge.rw_wu0094_01.row.toRowW d kwd fun f vs => PySem.call f vs) : PySem.Challenge.rw_wu0094_01.row.Holds :=
  holds_open left H.of H.keeps (fun s e => xl_of s (Bool.and_eq_true_iff.mp e).1) XL.keeps hdef hp hk (fun s e => recFacts_of (Bool.and_eq_true_iff.mp e).2) hwr k1 ok hb hw call
theorem own_top (k : Params → Frag) (a : List Addr) (e : ∀ P, a = (k P).map (·.1)) {d : DefRec} {kwd : List (Str × Expr)}
    (fin : ∀ (w : World) (os : OsState), ((topRun treeTable Pg w 28 (some (.ref 6)) 331 (sh hc20 684 w os) (restOf (bd.drop 21) eN cB (⟨257, 0, 257, 8⟩ : Pos) [topFrame q0])).bind fun s₁ => match staticsOk (importedModules Pg.main.body) (h0 w.params) s₁.heap && namesBound Pg s₁.heap && gensDone s₁ && laidKept (h0 w.params) s₁.heap with
      | true => some s₁
      | false => none).map (fun s => (openSeen vw lss (importedModules Pg.main.body) (fun s => xlAt vw [] s && recOk (RowW.records PySem.Challenge.rw_wu0094_01.row.toRowW) s) true s, (kmHook k a e [162, 348]).obs s)) = some (openGood vw lss, (kmHook k a e [162, 348]).val w))
    (hdef : defOf vw PySem.Challenge.rw_wu0094_01.row.name = some (d, kwd)) (hp : (PySem.Challenge.rw_wu0094_01.row.prog).theDef PySem.Challenge.rw_wu0094_01.row.name = some (d.params, d.body, d.scope)) (hk : kwWritten? d.params.kwonlyargs d.params.kw_defaults = some kwd)
    (hw : PySem.Challenge.rw_wu0094_01.row.toRowW.promised) (call : WalkO vw lss (XL vw []) (kmHook k a e [162, 348]).says PySem.Challenge.rw_wu0094_01.row.toRowW d kwd fun f vs => PySem.call f vs) : PySem.Challenge.rw_wu0094_01.row.Holds :=
  own_head (kmHook k a e [162, 348]) (left_cut fin) hdef hp hk rfl wsaid_row (by decide +kernel) ⟨rfl, rfl, rfl, rfl, rfl, by decide +kernel⟩ hw call
theorem own_law (h : PySem.Challenge.rw_wu0094_01.row.Holds) : PySem.Challenge.rw_wu0094_01.Holds := holds_law wsaid fun _ => h
local macro_rules | `(tactic| o_head (kmHook $k $a $e $t)) => `(tactic| refine own_top $k $a $e (fun w os => by kernel_rfl) (by rfl) (by rfl) (by rfl) ?hw ?hc)
local macro_rules | `(tactic| o_law) => `(tactic| refine own_law ?_)
open_top hd for PySem.Challenge.rw_wu0094_01
end Mine
end
section
local macro_rules | `(tactic| omega) => `(tactic| ((fail_if_success (fail_if_success (omega (config := {})))); first | lia | omega (config := {})))
-- BS
section
open PySem PySem.W PyProof.Rows PySem.Calls
set_option Elab.async false
set_option maxRecDepth 100000
namespace Mine
noncomputable def Halt (P : Prop) : Prop := P
theorem halt {P : Prop} (h : Halt P) : P := h
theorem unhalt {P : Prop} (h : P) : Halt P := h
theorem fr_pin1 {h₀ h : Heap} {L : Addr} {m : Str → Option Value} {a1 : Str} {v1 : Value} (F : Fr h₀ L h m) (e1 : m a1 = some v1) : Fr h₀ L h (fun y => if y = a1 then some v1 else m y) := by
  have : (fun y => if y = a1 then some v1 else m y) = m := by
    funext y
    by_cases h1 : y = a1
    · subst h1; simp [e1]
    simp [h1]
  rw [this]; exact F
theorem fr_pin3 {h₀ h : Heap} {L : Addr} {m : Str → Option Value} {a1 : Str} {v1 : Value} {a2 : Str} {v2 : Value} {a3 : Str} {v3 : Value} (F : Fr h₀ L h m) (e1 : m a1 = some v1) (e2 : m a2 = some v2) (e3 : m a3 = some v3) : Fr h₀ L h (fun y => if y = a1 then some v1 else if y = a2 then some v2 else if y = a3 then some v3 else m y) := by
  have : (fun y => if y = a1 then some v1 else if y = a2 then some v2 else if y = a3 then some v3 else m y) = m := by
    funext y
    by_cases h1 : y = a1
    · subst h1; simp [e1]
    by_cases h2 : y = a2
    · subst h2; simp [h1, e2]
    by_cases h3 : y = a3
    · subst h3; simp [h1, h2, e3]
    simp [h1, h2, h3]
  rw [this]; exact F
theorem fr_pin4 {h₀ h : Heap} {L : Addr} {m : Str → Option Value} {a1 : Str} {v1 : Value} {a2 : Str} {v2 : Value} {a3 : Str} {v3 : Value} {a4 : Str} {v4 : Value} (F : Fr h₀ L h m) (e1 : m a1 = some v1) (e2 : m a2 = some v2) (e3 : m a3 = some v3) (e4 : m a4 = some v4) : Fr h₀ L h (fun y => if y = a1 then some v1 else if y = a2 then some v2 else if y = a3 then some v3 else if y = a4 then some v4 else m y) := by
  have : (fun y => if y = a1 then some v1 else if y = a2 then some v2 else if y = a3 then some v3 else if y = a4 then some v4 else m y) = m := by
    funext y
    by_cases h1 : y = a1
    · subst h1; simp [e1]
    by_cases h2 : y = a2
    · subst h2; simp [h1, e2]
    by_cases h3 : y = a3
    · subst h3; simp [h1, h2, e3]
    by_cases h4 : y = a4
    · subst h4; simp [h1, h2, h3, e4]
    simp [h1, h2, h3, h4]
  rw [this]; exact F
theorem news_sub {h₀ h : Heap} {L : Addr} {news news' : List (Addr × Obj)} (N : News h₀ L h news') (hs : ∀ p ∈ news, p ∈ news') : News h₀ L h news := fun p hp => N p (hs p hp)

theorem runs_toks {M : Model} {Γ : PySem.Ctx} {p : Pos} {t : Sem Fin} {fs : List Frame} {s s' : Shared} {e : PySem.End} (h : Runs M Γ p t fs s e s') : s.toks ≤ s'.toks := by
  induction h with
  | _ => (try simp only [Shared.setGen] at *); omega

theorem wakes_toks {M : Model} {Γ : PySem.Ctx} {p : Pos} {g : Nat} {r : Resume} {s s' : Shared} {res : GenResult} (h : Wakes M Γ p g r s res s') : s.toks ≤ s'.toks := by
  have key : ∀ {x : GenState} {s₀ : Shared}, (s₀.setGen g x).toks = s₀.toks := fun {_ _} => rfl
  unfold Wakes at h
  cases hg : s.gens[g]? with
  | none => rw [hg] at h; exact h.elim
  | some gs =>
    rw [hg] at h
    cases gs with
    | fresh c =>
      cases r with
      | send v =>
        by_cases hv : v = .none
        · subst hv
          obtain ⟨e₁, s₁, h₁, _, _, rfl⟩ := h
          have z := runs_toks h₁; exact z
        · have : s' = s := by cases v <;> first | exact absurd rfl hv | exact h.2
          rw [this]; exact Nat.le_refl _
      | throw x => obtain ⟨_, rfl⟩ := h; exact Nat.le_refl _
    | suspended k₀ l₀ c₀ p₀ fs cl => obtain ⟨e₁, s₁, h₁, _, _, rfl⟩ := h; have z := runs_toks h₁; exact z
    | running => obtain ⟨_, rfl⟩ := h; exact Nat.le_refl _
    | finished => obtain ⟨_, rfl⟩ := h; exact Nat.le_refl _
theorem wp_toks {α : Type} (M : Model) (Γ : PySem.Ctx) (t : Sem α) (Q : α → Pos → Shared → Prop) (E : Value → Pos → Shared → Prop) (p : Pos) (s s₀ : Shared)
    (hs : s₀.toks ≤ s.toks) (known : Sem.wp M Γ t (fun a p' s' => s₀.toks ≤ s'.toks → Q a p' s') (fun e p' s' => s₀.toks ≤ s'.toks → E e p' s') p s) : Sem.wp M Γ t Q E p s := by
  revert known
  induction t generalizing p s with
  | pure x => exact fun h => h hs
  | raise v => exact fun h => h hs
  | unsupported | finish | yield | fork | await | register => exact id
  | rule _ k ih | «at» _ k ih | alloc _ k ih | loadIfAlive _ k ih | point _ k ih | ask k ih | os _ _ k ih | handled _ k ih | newGen _ k ih | stack k ih | thread k ih => exact ih _ _ _ hs
  | fresh k ih => exact ih _ _ _ (Nat.le_succ_of_le hs)
  | load a _ k ih | genState a k ih => exact fun ⟨o, ho, h⟩ => ⟨o, ho, ih _ _ _ hs h⟩
  | update a _ f k ih | choose _ _ k ih => exact fun ⟨ha, h⟩ => ⟨ha, ih _ _ _ hs h⟩
  | call c h g l k ih => exact fun ⟨r, s', hr, h⟩ => ⟨r, s', hr, ih r p s' (Nat.le_trans hs (runs_toks hr)) h⟩
  | resume g r l k ih => exact fun ⟨res, s', hw, h⟩ => ⟨res, s', hw, ih _ _ _ (Nat.le_trans hs (wakes_toks hw)) h⟩
theorem wpAny_toks {α : Type} {M : Model} {A : Around} {t : Sem α} {Q : α → Shared → Prop} {E : Value → Shared → Prop} {s : Shared}
    (h : wpAny M A t (fun a s' => s.toks ≤ s'.toks → Q a s') (fun e s' => s.toks ≤ s'.toks → E e s') s) : wpAny M A t Q E s :=
  fun Γ p hΓ => wp_toks M Γ t _ _ p s s (Nat.le_refl _) (h Γ p hΓ)
theorem wpAny_weaken {α : Type} {M : Model} {A B : Around} {t : Sem α} {Q : α → Shared → Prop} {E : Value → Shared → Prop} {s : Shared}
    (hh : A.handled = B.handled) (hd : A.depth ≤ B.depth) (hf : A.frames = B.frames) (hg : A.guards = B.guards) (hu : A.units ≤ B.units) (h : wpAny M B t Q E s) : wpAny M A t Q E s :=
  fun Γ p hΓ => h Γ p ⟨hΓ.1.trans hh, Nat.le_trans hΓ.2.1 hd, hf ▸ hΓ.2.2.1, hg ▸ hΓ.2.2.2.1, Nat.le_trans hΓ.2.2.2.2 hu⟩
end Mine
end
-- GF
section
open PySem PySem.W PyProof.Rows PySem.Spec PySem.Calls
set_option Elab.async false
namespace Mine
/-- the state told flat, its tokens named anew -/
theorem gtkF {M : Model} {A : Around} {α : Type} {c : Sem α} {Q : α → Shared → Prop} {E : Value → Shared → Prop} {h₀ hp hp' : Heap} {L : Addr} {m : Str → Option Value} {g' : Array GenState} {d' : Drawn} {o' : OsState} {a b : Nat} (_F : Fr h₀ L hp m) (g : Array GenState) (d : Drawn) (o : OsState)
    (e : Shared.mk hp' g' d' 0 o' = ⟨hp, g, d, 0, o⟩) (h : ∀ tk, wpAny M A c Q E ⟨hp, g, d, tk, o⟩) : wpAny M A c Q E ⟨hp', g', d', a + b, o'⟩ := by
  injection e with e1 e2 e3 _ e5
  subst e1 e2 e3 e5
  exact h _
end Mine
end
-- TX
section
open PySem PySem.W PyProof.Rows PySem.Calls
set_option Elab.async false
set_option maxRecDepth 100000
namespace Mine
def S (l : List Nat) : Str := ⟨l.toArray⟩
theorem S_toList (l : List Nat) : (S l).cps.toList = l := rfl
theorem S_len (l : List Nat) : (S l).length = l.length := by simp [S, Str.length]
theorem S_inj {a b : List Nat} (h : S a = S b) : a = b := by have := congrArg (fun x : Str => x.cps.toList) h; exact this
theorem S_of (x : Str) : x = S x.cps.toList := by obtain ⟨⟨l⟩⟩ := x; rfl
theorem S_app (a b : List Nat) : S a ++ S b = S (a ++ b) := by
  rw [S_of (S a ++ S b)]; congr 1; show ((S a).cps ++ (S b).cps).toList = _; simp [S]
theorem S_beq (a b : List Nat) : (S a == S b) = decide (a = b) := by
  by_cases h : a = b
  · subst h; simp
  · rw [decide_eq_false h]; exact beq_false_of_ne fun e => h (S_inj e)
theorem S_bne (a b : List Nat) : (S a != S b) = !decide (a = b) := by show (!(S a == S b)) = _; rw [S_beq]
theorem S_nil : Str.empty = S [] := rfl

/-- the parts between the signs c -/
noncomputable def spl (c : Nat) : List Nat → List (List Nat)
  | [] => [[]]
  | a :: r => if a = c then [] :: spl c r else match spl c r with | [] => [[a]] | p :: ps => (a :: p) :: ps
noncomputable def jn (c : Nat) : List (List Nat) → List Nat
  | [] => []
  | [x] => x
  | x :: y :: r => x ++ c :: jn c (y :: r)
theorem spl_ne (c : Nat) : ∀ l, spl c l ≠ [] := by
  intro l
  induction l with
  | nil => simp [spl]
  | cons a r ih =>
    unfold spl; split
    · simp
    · split <;> simp
theorem spl_free_app (c : Nat) : ∀ (p : List Nat) (l : List Nat), c ∉ p → spl c (p ++ c :: l) = p :: spl c l := by
  intro p
  induction p with
  | nil => intro l _; simp [spl]
  | cons a r ih =>
    intro l h
    have h1 : a ≠ c := fun e => h (by simp [e])
    have h2 : c ∉ r := fun e => h (by simp [e])
    show (if a = c then _ else match spl c (r ++ c :: l) with | [] => [[a]] | p :: ps => (a :: p) :: ps) = _
    rw [if_neg h1, ih l h2]
theorem spl_free (c : Nat) : ∀ (p : List Nat), c ∉ p → spl c p = [p] := by
  intro p
  induction p with
  | nil => intro _; rfl
  | cons a r ih =>
    intro h
    have h1 : a ≠ c := fun e => h (by simp [e])
    have h2 : c ∉ r := fun e => h (by simp [e])
    show (if a = c then _ else match spl c r with | [] => [[a]] | p :: ps => (a :: p) :: ps) = _
    rw [if_neg h1, ih h2]
theorem spl_unique (c : Nat) : ∀ (ps : List (List Nat)), ps ≠ [] → (∀ p ∈ ps, c ∉ p) → spl c (jn c ps) = ps := by
  intro ps
  induction ps with
  | nil => intro h; exact absurd rfl h
  | cons p r ih =>
    intro _ hf
    cases r with
    | nil => exact spl_free c p (hf p (by simp))
    | cons q r =>
      show spl c (p ++ c :: jn c (q :: r)) = _
      rw [spl_free_app c p _ (hf p (by simp)), ih (by simp) fun p' hp' => hf p' (List.mem_cons_of_mem _ hp')]
theorem join_S (c : List Nat) : ∀ ps : List (List Nat), Str.join (S c) (ps.map S) = S (match ps with | [] => [] | p :: r => p ++ (r.map fun q => c ++ q).flatten) := by
  intro ps
  induction ps with
  | nil => rfl
  | cons p r ih =>
    cases r with
    | nil => show S p = S _; simp
    | cons q r =>
      show S p ++ S c ++ Str.join (S c) ((q :: r).map S) = _
      rw [ih, S_app, S_app]
      congr 1
      simp [List.append_assoc]
theorem jn_eq (c : Nat) : ∀ ps : List (List Nat), jn c ps = (match ps with | [] => [] | p :: r => p ++ (r.map fun q => [c] ++ q).flatten) := by
  intro ps
  induction ps with
  | nil => rfl
  | cons p r ih =>
    cases r with
    | nil => simp [jn]
    | cons q r => show p ++ c :: jn c (q :: r) = _; rw [ih]; simp
theorem map_S_of (l : List Str) : l = (l.map fun x => x.cps.toList).map S := by
  rw [List.map_map]
  conv => lhs; rw [← List.map_id l]
  exact List.map_congr_left fun x _ => S_of x
theorem split_S (l : List Nat) (c : Nat) : Txt.split (S l) (S [c]) = (spl c l).map S := by
  have hj := StrLaws.join_split (S l) (S [c])
  have hf := StrLaws.split_free (S l) c
  have hp := split_pos (S l) (S [c])
  have e : (⟨#[c]⟩ : Str) = S [c] := rfl
  rw [e] at hf
  generalize Txt.split (S l) (S [c]) = ps at hj hf hp
  rw [map_S_of ps] at hj ⊢
  congr 1
  rw [join_S, ← jn_eq] at hj
  have hl := S_inj hj
  rw [← hl]
  refine (spl_unique c _ ?_ ?_).symm
  · intro h; have := congrArg List.length h; simp at this; subst this; simp at hp
  · intro p hp'
    obtain ⟨x, hx, rfl⟩ := List.mem_map.mp hp'
    exact hf x hx
def rep (c : Nat) (z : List Nat) (l : List Nat) : List Nat := l.flatMap fun d => if d = c then z else [d]
theorem glue_spl (c : Nat) (z : List Nat) : ∀ l, (match spl c l with | [] => [] | p :: r => p ++ (r.map fun q => z ++ q).flatten) = rep c z l := by
  intro l
  induction l with
  | nil => rfl
  | cons a r ih =>
    unfold spl
    by_cases h : a = c
    · rw [if_pos h]
      show [] ++ ((spl c r).map fun q => z ++ q).flatten = (if a = c then z else [a]) ++ rep c z r
      rw [if_pos h, ← ih]
      cases hs : spl c r with
      | nil => exact absurd hs (spl_ne c r)
      | cons p ps => simp
    · rw [if_neg h]
      show _ = (if a = c then z else [a]) ++ rep c z r
      rw [if_neg h, ← ih]
      cases hs : spl c r with
      | nil => exact absurd hs (spl_ne c r)
      | cons p ps => simp
theorem replace_S (l : List Nat) (c : Nat) (z : List Nat) : Txt.replace (S l) (S [c]) (S z) = S (rep c z l) := by
  have h := StrLaws.replace_one (S l) (S z) c
  have e : (⟨#[c]⟩ : Str) = S [c] := rfl
  rw [e, split_S, join_S, glue_spl] at h
  exact h
theorem in_S (l : List Nat) (c : Nat) : (!(Builtin.Str.occurrences (S l) (S [c]) 0 (S l).length 1).isEmpty) = decide (c ∈ l) := StrLaws.found_one (S l) c
theorem item_S {l : List Nat} {k : Nat} (h : k < l.length) : Txt.item (S l) (k : Int) = S [l[k]] := by
  refine item_meets (by omega) ?_
  show l.toArray[k]? = _
  simp [h]
theorem slice_is (x : Str) (l u : Option Int) : Txt.slice x l u = StrLaws.sliceText x l u := rfl
theorem sliceIdx_clip (a b len : Nat) : Builtin.Str.strSliceIndices (some (a : Int)) (some (b : Int)) 1 len = Builtin.Str.strSliceIndices (some ((min a len : Nat) : Int)) (some ((min b len : Nat) : Int)) 1 len := by
  have nn : ∀ n : Nat, ¬ ((n : Int) < 0) := fun n => by omega
  have key : ∀ n : Nat, max (0 : Int) (min (n : Int) (len : Int)) = max 0 (min ((min n len : Nat) : Int) (len : Int)) := fun n => by omega
  have h1 := nn a
  have h2 := nn b
  have h3 := nn (min a len)
  have h4 := nn (min b len)
  have h5 := key a
  have h6 := key b
  simp only [Builtin.Str.strSliceIndices, if_neg h1, if_neg h2, if_neg h3, if_neg h4, gt_iff_lt, show (0 : Int) < 1 from by decide, if_true, h5, h6]
theorem slice_S (l : List Nat) {a b : Nat} (hab : a ≤ b) : Txt.slice (S l) (some (a : Int)) (some (b : Int)) = S ((l.drop a).take (b - a)) := by
  rw [slice_is]
  have e : StrLaws.sliceText (S l) (some (a : Int)) (some (b : Int)) = StrLaws.sliceText (S l) (some ((min a l.length : Nat) : Int)) (some ((min b l.length : Nat) : Int)) := by
    unfold StrLaws.sliceText
    rw [sliceIdx_clip, S_len]
  rw [e, StrLaws.sliceText_nat _ (by omega) (by rw [S_len]; omega)]
  show S (((S l).cps.toList.drop _).take _) = _
  rw [S_toList]
  congr 1
  by_cases h : a ≤ l.length
  · rw [Nat.min_eq_left h]
    by_cases h2 : b ≤ l.length
    · rw [Nat.min_eq_left h2]
    · rw [Nat.min_eq_right (by omega), List.take_of_length_le (by simp), List.take_of_length_le (by simp; omega)]
  · rw [Nat.min_eq_right (by omega), Nat.min_eq_right (by omega), List.drop_eq_nil_of_le (by omega), List.drop_eq_nil_of_le (by omega)]
    simp
theorem slice_to (l : List Nat) (b : Nat) : Txt.slice (S l) none (some (b : Int)) = S (l.take b) := by
  have e : Txt.slice (S l) none (some (b : Int)) = Txt.slice (S l) (some ((0 : Nat) : Int)) (some (b : Int)) := by
    rw [slice_is, slice_is]; unfold StrLaws.sliceText; rw [StrLaws.sliceIdx_none_lo]; rfl
  rw [e, slice_S l (Nat.zero_le _)]; simp
theorem cnt_S (l : List Nat) (c : Nat) : Txt.count (S l) (S [c]) = (l.count c : Int) := by
  have h := count_is (S l) c
  have e : (⟨#[c]⟩ : Str) = S [c] := rfl
  rw [e] at h
  rw [h]
  show cnt c l = _
  clear h
  induction l with
  | nil => rfl
  | cons a r ih =>
    rw [cnt_cons, ih, List.count_cons]
    by_cases h : a = c
    · subst h; simp; omega
    · rw [if_neg h, if_neg (by simpa using h)]; simp
/-- a while by a measure, with its ways out; the tokens never fall -/
def WStep (h₀ : Heap) (L : Addr) (s : Shared) (J : Nat → (Str → Option Value) → List (Addr × Obj) → Prop) (Q : Flow → Shared → Prop) (n : Nat) (f : Flow) (s₃ : Shared) : Prop :=
  match f with
  | .brk => Q .next s₃
  | .ret v => Q (.ret v) s₃
  | _ => ∃ h' tk m₂ news₂ n', s₃ = { s with heap := h', toks := tk } ∧ Fr h₀ L h' m₂ ∧ News h₀ L h' news₂ ∧ n' < n ∧ J n' m₂ news₂
theorem WStep.intro {h₀ h' : Heap} {L : Addr} {s : Shared} {J : Nat → (Str → Option Value) → List (Addr × Obj) → Prop} {Q : Flow → Shared → Prop} {n n' tk : Nat} {m₂ : Str → Option Value} {news₂ : List (Addr × Obj)}
    (F : Fr h₀ L h' m₂) (N : News h₀ L h' news₂) (hn : n' < n) (hJ : J n' m₂ news₂) : WStep h₀ L s J Q n .next { s with heap := h', toks := tk } := ⟨h', tk, m₂, news₂, n', rfl, F, N, hn, hJ⟩
theorem WStep.introC {h₀ h' : Heap} {L : Addr} {s : Shared} {J : Nat → (Str → Option Value) → List (Addr × Obj) → Prop} {Q : Flow → Shared → Prop} {n n' tk : Nat} {m₂ : Str → Option Value} {news₂ : List (Addr × Obj)}
    (F : Fr h₀ L h' m₂) (N : News h₀ L h' news₂) (hn : n' < n) (hJ : J n' m₂ news₂) : WStep h₀ L s J Q n .cont { s with heap := h', toks := tk } := ⟨h', tk, m₂, news₂, n', rfl, F, N, hn, hJ⟩
theorem WStep.brk {h₀ : Heap} {L : Addr} {s s₃ : Shared} {J : Nat → (Str → Option Value) → List (Addr × Obj) → Prop} {Q : Flow → Shared → Prop} {n : Nat} (h : Q .next s₃) : WStep h₀ L s J Q n .brk s₃ := h
theorem WStep.ret {h₀ : Heap} {L : Addr} {s s₃ : Shared} {J : Nat → (Str → Option Value) → List (Addr × Obj) → Prop} {Q : Flow → Shared → Prop} {n : Nat} {v : Value} (h : Q (.ret v) s₃) : WStep h₀ L s J Q n (.ret v) s₃ := h
section
variable {prog : Program} {w : World} {A : Around} {E : Value → Shared → Prop} {Q : Flow → Shared → Prop} {s : Shared} {env : Env} {h₀ : Heap} {L : Addr}
theorem While_w {test : Expr} {body : List Stmt} {pos : Pos} {m : Str → Option Value} {news : List (Addr × Obj)} (J : Nat → (Str → Option Value) → List (Addr × Obj) → Prop) {n₀ : Nat}
    (F : Fr h₀ L s.heap m) (N : News h₀ L s.heap news) (hJ : J n₀ m news)
    (turn : ∀ n m₁ news₁ h₁ tk₁, s.toks ≤ tk₁ → Fr h₀ L h₁ m₁ → News h₀ L h₁ news₁ → J n m₁ news₁ →
      wpAny (model prog w) A (isTrue test env (eval test env)) (fun b s₂ =>
        if b = true then wpAny (model prog w) A (execs body env) (WStep h₀ L s J Q n) E s₂ else Q .next s₂) E { s with heap := h₁, toks := tk₁ })
    (hE : PassesOwn (model prog w) A env E := by passes_own) :
    wpAny (model prog w) A (exec (.While test body [] pos) env) Q E s := by
  refine wpAny_While (codeAny_whileLoop (fun n s' => ∃ h₁ tk₁ m₁ news₁, s' = { s with heap := h₁, toks := tk₁ } ∧ s.toks ≤ tk₁ ∧ Fr h₀ L h₁ m₁ ∧ News h₀ L h₁ news₁ ∧ J n m₁ news₁) ?_ n₀ ⟨s.heap, s.toks, m, news, rfl, Nat.le_refl _, F, N, hJ⟩)
  rintro n s' ⟨h₁, tk₁, m₁, news₁, rfl, ht, F₁, N₁, J₁⟩
  refine wpAny_toks (wpAny_mono (turn n m₁ news₁ h₁ tk₁ ht F₁ N₁ J₁) (fun b s₂ h₂ hs => ?_) fun _ _ e _ => hE _ _ e)
  cases b with
  | false =>
    simp only [Bool.false_eq_true, if_false] at h₂ ⊢
    exact wpAny_execs_nil h₂
  | true =>
    simp only [if_true] at h₂ ⊢
    refine wpAny_toks (wpAny_mono h₂ (fun f s₃ h₃ hs3 => ?_) fun _ _ e _ => hE _ _ e)
    have hs' : tk₁ ≤ s₂.toks := hs
    cases f with
    | brk => exact h₃
    | ret v => exact h₃
    | next =>
      obtain ⟨h', tk, m₂, news₂, n', rfl, F₂, N₂, hn, J₂⟩ := h₃
      have hs3' : s₂.toks ≤ tk := hs3
      exact ⟨n', hn, h', tk, m₂, news₂, rfl, by omega, F₂, N₂, J₂⟩
    | cont =>
      obtain ⟨h', tk, m₂, news₂, n', rfl, F₂, N₂, hn, J₂⟩ := h₃
      have hs3' : s₂.toks ≤ tk := hs3
      exact ⟨n', hn, h', tk, m₂, news₂, rfl, by omega, F₂, N₂, J₂⟩
end
theorem neAll_lt {news : List (Addr × Obj)} {b c : Nat} (h : ∀ p ∈ news, p.1 < b) (hb : b ≤ c) : ∀ p ∈ news, p.1 ≠ c := fun p hp e => absurd (Nat.lt_of_lt_of_le (h p hp) hb) (e ▸ Nat.lt_irrefl _)
theorem vint {i j : Int} {t : Tok} (h : i = j) : some (Value.int i t) = some (Value.int j t) := by rw [h]
theorem vstr {x y : Str} {t : Tok} (h : x = y) : some (Value.str x t) = some (Value.str y t) := by rw [h]
abbrev fsc (nm : List (Str × NameKind)) (mr : List (Str × Const)) : Scope := { kind := .function, names := nm, isGenerator := false, isCoroutine := false, more := mr }
theorem neAllLt {news : List (Addr × Obj)} {b c : Nat} (h : AllLt b news) (hb : b ≤ c) : ∀ p ∈ news, p.1 ≠ c := by
  induction news with
  | nil => exact fun _ h => nomatch h
  | cons q r ih =>
    intro p hp
    rcases List.mem_cons.mp hp with rfl | hp
    · exact fun e => absurd (Nat.lt_of_lt_of_le h.1 hb) (e ▸ Nat.lt_irrefl _)
    · exact ih h.2 p hp
end Mine
end
-- ST
section
open PySem PySem.W PyProof.Rows PySem.Calls
set_option Elab.async false
set_option maxRecDepth 100000
namespace Mine
noncomputable abbrev PG : Program := PySem.Challenge.rw_wu0094_01.row.prog
noncomputable abbrev dE (w : World) (n : Str) (t : Tok) (v : Value) : DictEntry := ⟨PyData.keyHash w.params n, .str n t, v⟩
structure Strm where
  x : Nat
  dx : Nat
  pb : Nat
  f : Nat
  c : Nat
  pl : Nat
  c2 : Nat
  c1 : Nat
  k : Nat → Tok
  fcl : Value
  fod : Option Addr
  fd : FuncData
  fsl : Array (Option Value)
  oc : Obj
  o2 : Obj
  o1 : Obj
noncomputable def Strm.Ord (σ : Strm) : Prop := σ.c1 < σ.c2 ∧ σ.c2 < σ.pl ∧ σ.pl < σ.f ∧ σ.c ≠ σ.pl ∧ σ.c < σ.f ∧ σ.f < σ.dx ∧ σ.dx < σ.x ∧ σ.x < σ.pb
noncomputable def rd (T : List Nat) (k : Nat) : List Nat := (T.drop k).take 1
noncomputable def Reads (w : World) (σ : Strm) (T : List Nat) : Prop :=
  ∀ {p : Program} {loose : List Str} {mean : ExcName → Option Value} {mg mb : Str → Option Value} {news : List (Addr × Obj)} (k : Nat) (tk ts : Tok)
    (cn : Str) (nm : List (Str × NameKind)) (mr : List (Str × Const)) (a : Addr) (ccd : Value) (cl : List (Str × Addr)) (outer : List Env) (A₀ : Around) (base h₀ : Heap) (L : Addr) (m : Str → Option Value) (s : Shared) (Q E : Value → Shared → Prop),
    Below A₀ base outer h₀ → Fr h₀ L s.heap m → (hd.heap_1 w.params).In h₀ → News h₀ L s.heap ((σ.pl, listOf #[.int k tk] 0) :: (σ.f, ⟨σ.fcl, σ.fod, .func σ.fd, σ.fsl⟩) :: (σ.c, σ.oc) :: (σ.c2, σ.o2) :: (σ.c1, σ.o1) :: news) → Top p loose mean mg mb h₀ → σ.Ord → (∀ q ∈ news, q.1 ≠ (σ.pl : Nat)) → k < 1000 →
    (∀ (t tk' : Tok) (h' : Heap) (n : Nat), Fr h₀ L h' m → News h₀ L h' ((σ.pl, listOf #[.int ((k + (rd T k).length : Nat) : Int) tk'] 0) :: (σ.f, ⟨σ.fcl, σ.fod, .func σ.fd, σ.fsl⟩) :: (σ.c, σ.oc) :: (σ.c2, σ.o2) :: (σ.c1, σ.o1) :: news) → Q (.str (S (rd T k)) t) { s with heap := h', toks := n }) →
      wpAny (model PG w) (ktrTop 900 8000 (some []) cn (fsc nm mr) L a ccd cl outer) (call (.ref σ.f) [.int 1 ts]) Q E s
/-- the table of _law_stream's own code: nothing yet, or the code of read -/
noncomputable def TabOk (tb : Obj) (news : List (Addr × Obj)) : Prop :=
  tb = tabObj #[] ∨ ∃ (c : Addr) (oc : Obj) (vs : Array Value) (t : Tok), tb = tabObj #[rawInt 288, rawInt 4, .ref c] ∧ (c, oc) ∈ news ∧ oc.data = .fields vs ∧ vs[1]? = some (.str "_law_stream.<locals>.read" t)
noncomputable def StreamNews (w : World) (σ : Strm) (D : Nat) (t : Tok) (news : List (Addr × Obj)) : List (Addr × Obj) :=
  (D, { cls := .type "tuple", data := .seq #[.ref σ.x, .ref σ.pl] }) :: (σ.pb, listOf #[] 0) :: (σ.x, instObj 274 σ.dx) :: (σ.dx, dictOf [dE w "lineno" (σ.k 0) (.int 1 (σ.k 1)), dE w "instream" (σ.k 2) .none, dE w "whitespace" (σ.k 3) (.str "\n\t\x0d " (σ.k 4)), dE w "pushback" (σ.k 5) (.ref σ.pb), dE w "read" (σ.k 6) (.ref σ.f)] 5) :: (σ.f, ⟨σ.fcl, σ.fod, .func σ.fd, σ.fsl⟩) :: (σ.c, σ.oc) :: (σ.pl, listOf #[.int 0 t] 0) :: (σ.c2, σ.o2) :: (σ.c1, σ.o1) :: (348, tabObj #[rawInt 288, rawInt 4, .ref σ.c]) :: news
/-- what _law_stream hands on -/
noncomputable abbrev StreamRet (w : World) (T : List Nat) (h₀ : Heap) (L : Addr) (m : Str → Option Value) (news : List (Addr × Obj)) (s : Shared) (Q : Value → Shared → Prop) : Prop :=
  ∀ (σ : Strm) (D : Nat) (t : Tok) (h' : Heap) (tk' : Nat), σ.Ord → σ.pb < D → (∀ q ∈ news, q.1 < σ.c1) → 348 < σ.c1 → Reads w σ T → Fr h₀ L h' m → News h₀ L h' (StreamNews w σ D t news) →
    (∃ vs t', σ.oc.data = .fields vs ∧ vs[1]? = some (.str "_law_stream.<locals>.read" t')) → Q (.ref D) { s with heap := h', toks := tk' }
theorem allLt_all {news : List (Addr × Obj)} {b c : Nat} (h : AllLt b news) (hb : b ≤ c) : ∀ p ∈ news, p.1 < c := by
  induction news with
  | nil => exact fun _ h => nomatch h
  | cons q r ih =>
    intro p hp
    rcases List.mem_cons.mp hp with rfl | hp
    · exact Nat.lt_of_lt_of_le h.1 hb
    · exact ih h.2 p hp
theorem allLt_all2 {a b' : Prop} {news : List (Addr × Obj)} {b c : Nat} (h : a ∧ b' ∧ AllLt b news) (hb : b ≤ c) : ∀ p ∈ news, p.1 < c := allLt_all h.2.2 hb
theorem allLt_all1 {a : Prop} {news : List (Addr × Obj)} {b c : Nat} (h : a ∧ AllLt b news) (hb : b ≤ c) : ∀ p ∈ news, p.1 < c := allLt_all h.2 hb
structure Lex where
  lx : Nat
  dl : Nat
  lp : Nat
  k : Nat → Tok
noncomputable def Lex.Ord (l : Lex) (σ : Strm) : Prop := σ.pb < l.dl ∧ l.dl < l.lx ∧ l.lx < l.lp
/-- the lexer, its stream; k signs read, n its line -/
noncomputable def LexNews (w : World) (l : Lex) (σ : Strm) (k n : Nat) (tk tn : Tok) (news : List (Addr × Obj)) : List (Addr × Obj) :=
  (σ.pl, listOf #[.int k tk] 0) :: (σ.f, ⟨σ.fcl, σ.fod, .func σ.fd, σ.fsl⟩) :: (σ.c, σ.oc) :: (σ.c2, σ.o2) :: (σ.c1, σ.o1) :: (l.dl, dictOf [dE w "lineno" (l.k 0) (.int n tn), dE w "instream" (l.k 1) (.ref σ.x), dE w "whitespace" (l.k 2) (.str "\n\t\x0d " (l.k 3)), dE w "pushback" (l.k 4) (.ref l.lp)] 4) :: (l.lx, instObj 274 l.dl) :: (l.lp, listOf #[] 0) :: (σ.pb, listOf #[] 0) :: (σ.x, instObj 274 σ.dx) :: (σ.dx, dictOf [dE w "lineno" (σ.k 0) (.int 1 (σ.k 1)), dE w "instream" (σ.k 2) .none, dE w "whitespace" (σ.k 3) (.str "\n\t\x0d " (σ.k 4)), dE w "pushback" (σ.k 5) (.ref σ.pb), dE w "read" (σ.k 6) (.ref σ.f)] 5) :: news
theorem news_tl {h₀ h : Heap} {L : Addr} {x : Addr × Obj} {news : List (Addr × Obj)} (N : News h₀ L h (x :: news)) : News h₀ L h news := fun p hp => N p (.tail _ hp)
noncomputable def nl (l : List Nat) : Nat := l.count 10
end Mine
end
-- NX
section
open PySem PySem.W PyProof.Rows PySem.Calls
set_option Elab.async false
set_option maxRecDepth 100000
namespace Mine
theorem slot_cit_next : Slot "callable_iterator" "__next__" "callable_iterator.__next__" :=
  .of (owner := "callable_iterator") (n := "__next__") (by rw [typeLookup_type, builtinLookup_eq_fast]; kernel_rfl) (by decide +kernel) (by decide +kernel) (by decide +kernel)
    (by first | exact .inl (by decide +kernel) | exact .inr (by decide +kernel)) (by rw [isSubtype_type]; kernel_rfl)
theorem entry_cit_next : entryFor table "callable_iterator.__next__" = some Builtin.«callable_iterator.__next__» := entryFor_of_fast (by kernel_rfl)
theorem args_cit_next (a : Value) : argsOk "callable_iterator.__next__" ⟨[a], []⟩ := by unfold argsOk; kernel_rfl
noncomputable abbrev citObj (q e : Value) (b : Bool) : Obj := { cls := .type "callable_iterator", data := .fields #[q, e, .bool b] }
noncomputable abbrev citEnd : Obj := { cls := .type "callable_iterator", data := .fields #[.none, .none, .bool true] }
section
variable {M : Model} {prog : Program} {w : World} {A : Around} {E : Value → Shared → Prop} {s : Shared}
theorem wpAny_callBorrowed {f : Value} {pos : List Value} {Q : Value → Shared → Prop} (h : codeAny M A (.call f ⟨pos, []⟩) (fun r s' => match r with | .ok (.ret v) => Q v s' | .ok _ => False | .error e => E e s') s) :
    wpAny M A (callBorrowed f pos) Q E s := by
  intro Γ p hΓ
  have z := h _ p rfl (hΓ.enter (.call f ⟨pos, []⟩) none p (by intro x; cases x))
  show wpCode M (Γ.enter (.call f ⟨pos, []⟩) none p) _ p s
  refine wpCode_mono (fun r s' hr => ?_) z
  cases r with
  | error e => exact hr
  | ok fl => cases fl with
    | ret v => exact hr
    | _ => exact hr.elim
theorem wpAny_borrows {q f self : Addr} {oc : Value} {od : Option Addr} {fd : FuncData} {sl : Array (Option Value)} {Q : Bool → Shared → Prop} (hq : s.heap.get? q = some (methodObj (.ref f) (.ref self))) (hf : s.heap.get? f = some ⟨oc, od, .func fd, sl⟩) (h : Q true s) :
    wpAny M A (borrowsExactly (.ref q)) Q E s := by
  unfold borrowsExactly
  refine wpAny_bind (wpAny_load hq ?_)
  dsimp only
  rw [if_pos (by decide)]
  show wpAny M A (do let o ← load f; match o.data with | .func _ => pure true | _ => pure false) Q E s
  exact wpAny_bind (wpAny_load hf (wpAny_pure h))
theorem wpAny_stopIt {α : Type} {Q' : α → Shared → Prop} {Q : Option Value → Shared → Prop} (hh : A.handled = none) (h : ∀ h', (∀ b o, s.heap.get? b = some o → h'.get? b = some o) → Q none { s with heap := h' }) :
    wpAny (model prog w) A.in1 (Builtin.SmallTypes.stopIteration : Sem α) Q' (fun e s' => wpAny (model prog w) A (do if ← isInstance e (.type "StopIteration") then pure none else throw e) Q E s') s := by
  unfold Builtin.SmallTypes.stopIteration
  refine wpAny_bind ?_
  simp only [newExc, newTuple]
  refine wpAny_bind (wpAny_newObj_type ?_ (by size_fits))
  refine wpAny_bind (m := firstArgMember _ _) (wpAny_of_eq (a := Value.none) (by first | rfl | (simp only [firstArgMember]; rfl)) ?_)
  refine wpAny_newObj_type ?_ (by size_fits)
  simp only [raiseNew]
  refine wpAny_bind (wpAny_handled ?_)
  rw [show A.in1.handled = none from hh]
  refine wpAny_bind (wpAny_pure (wpAny_throw ?_))
  refine wpAny_bind (wpAny_isInstance (T := "StopIteration") (b := true) ⟨_, Heap.get?_push_size _ rfl, rfl⟩ isSubtype_stop ?_)
  exact wpAny_pure (h _ fun b o e => Heap.get?_push_of_some _ (Heap.get?_push_of_some _ e))
theorem next_ended {it : Addr} {Q : Option Value → Shared → Prop} (hh : A.handled = none) (hit : s.heap.get? it = some citEnd)
    (h : ∀ h', (∀ b o, s.heap.get? b = some o → h'.get? b = some o) → Q none { s with heap := h' }) : wpAny (model prog w) A (pyNext (.ref it)) Q E s := by
  have hT : s.TypeIs (.ref it) "callable_iterator" := ⟨_, hit, rfl⟩
  unfold pyNext
  refine wpAny_bind (wpAny_attempt (wpAny_callSpecial?_slot (name := Str.ofString "__next__") hT slot_cit_next
    (wpAny_call_entry slot_cit_next hT entry_cit_next ?_ (args_cit_next _))))
  show wpAny _ _ (field (.ref it) 2 >>= _) _ _ s
  refine wpAny_bind (wpAny_field hit rfl (x := .bool true) rfl ?_)
  show wpAny _ _ (if (Value.bool true == Value.bool true) = true then _ else _) _ _ s
  rw [if_pos (by decide)]
  refine wpAny_bind (wpAny_rule (wpAny_bind ?_))
  exact wpAny_stopIt hh h
theorem next_call {it q f self : Addr} {e : Str} {te : Tok} {Q : Option Value → Shared → Prop} (hh : A.handled = none)
    (hit : s.heap.get? it = some (citObj (.ref q) (.str e te) false))
    (hq : s.heap.get? q = some (methodObj (.ref f) (.ref self))) (hf : ∃ oc od fd sl, s.heap.get? f = some ⟨oc, od, .func fd, sl⟩)
    (hc : codeAny (model prog w) A.in1 (.call (.ref f) ⟨[.ref self], []⟩) (fun r s₁ => ∃ x t, r = .ok (.ret (.str x t)) ∧ s₁.heap.get? it = some (citObj (.ref q) (.str e te) false) ∧ s₁.heap.get? q = some (methodObj (.ref f) (.ref self)) ∧ (∃ oc od fd sl, s₁.heap.get? f = some ⟨oc, od, .func fd, sl⟩) ∧
      if e = x then (∀ h', h'.get? it = some citEnd → (∀ b o, b ≠ it → s₁.heap.get? b = some o → h'.get? b = some o) → Q none { s₁ with heap := h' }) else Q (some (.str x t)) s₁) s) :
    wpAny (model prog w) A (pyNext (.ref it)) Q E s := by
  have hT : s.TypeIs (.ref it) "callable_iterator" := ⟨_, hit, rfl⟩
  obtain ⟨oc, od, fd, sl, hf⟩ := hf
  unfold pyNext
  refine wpAny_bind (wpAny_attempt (wpAny_callSpecial?_slot (name := Str.ofString "__next__") hT slot_cit_next
    (wpAny_call_entry slot_cit_next hT entry_cit_next ?_ (args_cit_next _))))
  show wpAny _ _ (field (.ref it) 2 >>= _) _ _ s
  refine wpAny_bind (wpAny_field hit rfl (x := .bool false) rfl ?_)
  show wpAny _ _ (if (Value.bool false == Value.bool true) = true then _ else _) _ _ s
  rw [if_neg (by decide)]
  refine wpAny_bind (wpAny_field hit rfl (x := .ref q) rfl ?_)
  refine wpAny_bind (wpAny_attempt ?_)
  unfold callOutOfASlot
  refine wpAny_bind (wpAny_borrows hq hf ?_)
  rw [if_pos rfl]
  refine wpAny_callBorrowed (method_call hq ?_)
  refine PySem.codeAny_mono hc fun r s₁ hr => ?_
  obtain ⟨x, t, rfl, hit1, hq1, ⟨oc1, od1, fd1, sl1, hf1⟩, hx⟩ := hr
  dsimp only
  refine wpAny_bind (wpAny_field hit1 rfl (x := .bool false) rfl ?_)
  rw [if_neg (show ¬ ((Value.bool false == Value.bool true) = true) by decide)]
  refine wpAny_bind (wpAny_field hit1 rfl (x := .str e te) rfl ?_)
  refine wpAny_bind (wpAny_holding (wpAny_eqBool_str ?_))
  by_cases hex : e = x
  · rw [if_pos hex] at hx
    rw [decide_eq_true hex]
    simp only [Bool.not_true, Bool.false_eq_true, if_false]
    refine wpAny_bind (wpAny_rule ?_)
    refine wpAny_bind (wpAny_bind (m := field (.ref it) 0) (wpAny_field hit1 rfl (x := .ref q) rfl ?_))
    refine wpAny_bind (m := slotLetsGo _ _ _) ?_
    unfold slotLetsGo
    dsimp only
    refine wpAny_bind (wpAny_borrows hq1 hf1 ?_)
    rw [if_pos rfl]
    refine wpAny_pure ?_
    refine wpAny_bind (wpAny_setField_rec hit1 (by simp) fun h1 e1 sb1 => ?_)
    refine wpAny_bind (wpAny_setField_rec (s := { s₁ with heap := h1 }) e1 (by simp) fun h2 e2 sb2 => ?_)
    refine (wpAny_setField_rec (s := { s₁ with heap := h2 }) e2 (by simp) fun h3 e3 sb3 => ?_)
    refine wpAny_stopIt (s := { s₁ with heap := h3 }) hh fun h' hk => ?_
    refine hx h' (hk _ _ e3) fun b o hb hbo => hk _ _ ?_
    exact (sb3.2 b hb).trans ((sb2.2 b hb).trans ((sb1.2 b hb).trans hbo))
  · rw [if_neg hex] at hx
    rw [decide_eq_false hex]
    simp only [Bool.not_false, if_true]
    exact wpAny_pure ⟨_, rfl, wpAny_pure hx⟩
theorem entry_iter : entryFor table "iter" = some Builtin.«iter» := entryFor_of_fast (by kernel_rfl)
theorem args_iter2 (a b : Value) : argsOk "iter" ⟨[a, b], []⟩ := by unfold argsOk; kernel_rfl
theorem look_method_call : typeLookup (.type "method") "__call__" = pure (some (.builtin "method.__call__")) := by rw [typeLookup_type, builtinLookup_eq_fast]; kernel_rfl
theorem slot_cit_iter : Slot "callable_iterator" "__iter__" "callable_iterator.__iter__" :=
  .of (owner := "callable_iterator") (n := "__iter__") (by rw [typeLookup_type, builtinLookup_eq_fast]; kernel_rfl) (by decide +kernel) (by decide +kernel) (by decide +kernel)
    (by first | exact .inl (by decide +kernel) | exact .inr (by decide +kernel)) (by rw [isSubtype_type]; kernel_rfl)
theorem entry_cit_iter : entryFor table "callable_iterator.__iter__" = some Builtin.«dict_keyiterator.__iter__» :=
  entryFor_alias (id' := "dict_keyiterator.__iter__") (by kernel_rfl) rfl (by decide +kernel) (by kernel_rfl)
theorem args_cit_iter (a : Value) : argsOk "callable_iterator.__iter__" ⟨[a], []⟩ := by unfold argsOk; kernel_rfl
theorem iter_sent {h₀ : Heap} {L q f self : Addr} {m : Str → Option Value} {news : List (Addr × Obj)} {e : Str} {te : Tok} {Q : Value → Shared → Prop} (F : Fr h₀ L s.heap m) (N : News h₀ L s.heap news) (hq : (q, methodObj (.ref f) (.ref self)) ∈ news)
    (h : ∀ (it : Nat) h', Fr h₀ L h' m → News h₀ L h' ((it, citObj (.ref q) (.str e te) false) :: news) → (∀ p ∈ news, p.1 < it) → Q (.ref it) { s with heap := h' }) :
    wpAny (model prog w) A (call (.builtin "iter") [.ref q, .str e te]) Q E s := by
  have hq' := (N _ hq).1
  have hT : s.TypeIs (.ref q) "method" := ⟨_, hq', rfl⟩
  refine call_function_entry (by decide +kernel) (by decide +kernel) entry_iter (args_iter2 _ _) ?_
  unfold Builtin.«iter»
  refine wpAny_bind (m := someArgs "iter" 1 2 _) (wpAny_of_eq (a := [Value.ref q, Value.str e te]) (by first | rfl | kernel_rfl!) ?_)
  dsimp only
  refine wpAny_bind (wpAny_specialOf hT look_method_call ?_)
  simp only [Option.isNone_some, Bool.false_eq_true, if_false]
  refine wpAny_bind (wpAny_rule ?_)
  unfold newFields
  refine wpAny_bind (wpAny_newObj_type ?_ (by size_fits))
  exact wpAny_pure ⟨_, rfl, h _ _ (F.push _) (News.push F N _ rfl) fun p hp => Heap.lt_size (N p hp).1⟩
theorem iter_cit {it : Addr} {vs : Array Value} {Q : Value → Shared → Prop} (hit : s.heap.get? it = some { cls := .type "callable_iterator", data := .fields vs }) (h : Q (.ref it) s) : wpAny (model prog w) A (pyIter (.ref it)) Q E s := by
  have hT : s.TypeIs (.ref it) "callable_iterator" := ⟨_, hit, rfl⟩
  refine wpAny_pyIter_slot hT slot_cit_iter (wpAny_call_entry slot_cit_iter hT entry_cit_iter ?_ (args_cit_iter _))
  show wpAny _ _ (ret (.ref it)) _ _ s
  exact wpAny_pure ⟨_, rfl, "callable_iterator", _, hT, slot_cit_next.lookup, h⟩
/-- a for over an iterator that is a reference, by a measure -/
noncomputable def LoopW (prog : Program) (w : World) (A : Around) (h₀ : Heap) (L : Addr) (env : Env) (x : Str) (px : Pos) (body : List Stmt) (Q : Flow → Shared → Prop) (E : Value → Shared → Prop) (it : Value) (s₂ : Shared) : Prop :=
  ∃ (J : Nat → (Str → Option Value) → List (Addr × Obj) → Prop) (n₀ : Nat) (m : Str → Option Value) (news : List (Addr × Obj)), Fr h₀ L s₂.heap m ∧ News h₀ L s₂.heap news ∧ J n₀ m news ∧
    ∀ n m₁ news₁ h₁ tk₁, s₂.toks ≤ tk₁ → Fr h₀ L h₁ m₁ → News h₀ L h₁ news₁ → J n m₁ news₁ →
      wpAny (model prog w) A (pyNext it) (fun r s₁ => match r with
        | none => Q .next s₁
        | some v => wpAny (model prog w) A (storeName env x v) (fun _ s₃ => wpAny (model prog w) A (execs body env) (WStep h₀ L s₂ J Q n) E s₃) E s₁) E { s₂ with heap := h₁, toks := tk₁ }
theorem For_w {env : Env} {h₀ : Heap} {L : Addr} {x : Str} {px pos : Pos} {iter : Expr} {body : List Stmt} {Q : Flow → Shared → Prop} {m₀ : Str → Option Value} (_F : Fr h₀ L s.heap m₀)
    (h : wpAny (model prog w) A (eval iter env) (fun xv s₁ => wpAny (model prog w) A (pyIter xv) (fun it s₂ => LoopW prog w A h₀ L env x px body Q E it s₂) E s₁) E s)
    (hs : ∀ x, foldedSetIterable iter env x = pure x := by intro _; rfl)
    (hE : PassesOwn (model prog w) A env E := by passes_own) :
    wpAny (model prog w) A (exec (.For (.Name x px) iter body [] pos) env) Q E s := by
  refine wpAny_For (wpAny_mono h (fun xv s₁ h₁ => wpAny_mono h₁ (fun it s₂ h₂ => ?_) fun _ _ e => e) fun _ _ e => e) hs
  obtain ⟨J, n₀, m, news, F, N, hJ, turn⟩ := h₂
  refine codeAny_forLoop (fun n s' => ∃ h₁ tk₁ m₁ news₁, s' = { s₂ with heap := h₁, toks := tk₁ } ∧ s₂.toks ≤ tk₁ ∧ Fr h₀ L h₁ m₁ ∧ News h₀ L h₁ news₁ ∧ J n m₁ news₁) ?_ n₀ ⟨s₂.heap, s₂.toks, m, news, rfl, Nat.le_refl _, F, N, hJ⟩
  rintro n s' ⟨h₁, tk₁, m₁, news₁, rfl, ht, F₁, N₁, J₁⟩
  refine wpAny_toks (wpAny_mono (turn n m₁ news₁ h₁ tk₁ ht F₁ N₁ J₁) (fun r s₁ hr hs1 => ?_) fun _ _ e _ => hE _ _ e)
  have hs1' : tk₁ ≤ s₁.toks := hs1
  cases r with
  | none => exact wpAny_execs_nil hr
  | some v =>
    dsimp only at hr ⊢
    refine wpAny_assign_Name (wpAny_toks (wpAny_mono hr (fun _ s₃ h₃ hs3 => ?_) fun _ _ e _ => hE _ _ e))
    refine wpAny_toks (wpAny_mono h₃ (fun f s₄ h₄ hs4 => ?_) fun _ _ e _ => hE _ _ e)
    cases f with
    | brk => exact h₄
    | ret v => exact h₄
    | next =>
      obtain ⟨h', tk, m₂, news₂, n', rfl, F₂, N₂, hn, J₂⟩ := h₄
      have hs4' : s₃.toks ≤ tk := hs4
      exact ⟨n', hn, h', tk, m₂, news₂, rfl, by omega, F₂, N₂, J₂⟩
    | cont =>
      obtain ⟨h', tk, m₂, news₂, n', rfl, F₂, N₂, hn, J₂⟩ := h₄
      have hs4' : s₃.toks ≤ tk := hs4
      exact ⟨n', hn, h', tk, m₂, news₂, rfl, by omega, F₂, N₂, J₂⟩
end
end Mine
end
-- TK
section
open PySem PySem.W PyProof.Rows PySem.Calls
set_option Elab.async false
set_option maxRecDepth 100000
namespace Mine
noncomputable def ws (c : Nat) : Bool := [10, 9, 13, 32].contains c
noncomputable def plain : List Nat → List Nat → List Nat × List Nat
  | acc, [] => (acc, [])
  | acc, [92] => (acc, [])
  | acc, 92 :: d :: r => plain (acc ++ [d]) r
  | acc, c :: r => if ws c then (acc, r) else plain (acc ++ [c]) r
noncomputable def quoted : List Nat → List Nat → List Nat × List Nat
  | acc, [] => (acc, [])
  | acc, [92] => (acc, [])
  | acc, 92 :: d :: r => quoted (acc ++ [d]) r
  | acc, c :: r => if c = 34 then (acc, r) else quoted (acc ++ [c]) r
noncomputable def tok : List Nat → List Nat × List Nat
  | [] => ([], [])
  | [92] => ([], [])
  | 92 :: d :: r => plain [d] r
  | c :: r => if ws c then tok r else if c = 34 then quoted [] r else plain [c] r
theorem plain_b1 (acc : List Nat) : plain acc [92] = (acc, []) := by simp [plain]
theorem plain_b2 (acc : List Nat) (d : Nat) (r : List Nat) : plain acc (92 :: d :: r) = plain (acc ++ [d]) r := by rw [plain]
theorem plain_c (acc : List Nat) {c : Nat} (r : List Nat) (h : c ≠ 92) : plain acc (c :: r) = if ws c then (acc, r) else plain (acc ++ [c]) r := by
  conv => lhs; unfold plain
  split <;> simp_all
theorem quoted_b1 (acc : List Nat) : quoted acc [92] = (acc, []) := by simp [quoted]
theorem quoted_b2 (acc : List Nat) (d : Nat) (r : List Nat) : quoted acc (92 :: d :: r) = quoted (acc ++ [d]) r := by rw [quoted]
theorem quoted_c (acc : List Nat) {c : Nat} (r : List Nat) (h : c ≠ 92) : quoted acc (c :: r) = if c = 34 then (acc, r) else quoted (acc ++ [c]) r := by
  conv => lhs; unfold quoted
  split <;> simp_all
theorem tok_b1 : tok [92] = ([], []) := by simp [tok]
theorem tok_b2 (d : Nat) (r : List Nat) : tok (92 :: d :: r) = plain [d] r := by rw [tok]
theorem tok_c {c : Nat} (r : List Nat) (h : c ≠ 92) : tok (c :: r) = if ws c then tok r else if c = 34 then quoted [] r else plain [c] r := by
  conv => lhs; unfold tok
  split <;> simp_all
theorem plain_le : ∀ (acc l : List Nat), (plain acc l).2.length ≤ l.length ∧ (plain acc l).1.length ≤ acc.length + l.length := by
  intro acc l
  fun_induction plain acc l <;> (try simp_all only [List.length_cons, List.length_append, List.length_nil]) <;> omega
theorem quoted_le : ∀ (acc l : List Nat), (quoted acc l).2.length ≤ l.length ∧ (quoted acc l).1.length ≤ acc.length + l.length := by
  intro acc l
  fun_induction quoted acc l <;> (try simp_all only [List.length_cons, List.length_append, List.length_nil]) <;> omega
theorem rd_cons {T : List Nat} {k c : Nat} {r : List Nat} (h : T.drop k = c :: r) : rd T k = [c] ∧ T.drop (k + 1) = r ∧ k < T.length := by
  refine ⟨by simp [rd, h], ?_, ?_⟩
  · rw [← List.drop_drop, h]; rfl
  · apply Nat.lt_of_not_le; intro hle; rw [List.drop_eq_nil_of_le hle] at h; cases h
theorem rd_nil {T : List Nat} {k : Nat} (h : T.drop k = []) : rd T k = [] := by simp [rd, h]
theorem ws_is (c : Nat) : (Builtin.Str.occurrences (Str.ofString "\n\t\x0d ") (S [c]) 0 (Str.ofString "\n\t\x0d ").length 1).isEmpty = !ws c := by
  have h := in_S [10, 9, 13, 32] c
  have e : Str.ofString "\n\t\x0d " = S [10, 9, 13, 32] := rfl
  rw [e]
  have h2 : decide (c ∈ [10, 9, 13, 32]) = ws c := by
    unfold ws
    rw [Bool.eq_iff_iff]
    simp
  rw [h2] at h
  rw [← h, Bool.not_not]
theorem ws_of {c : Nat} (h : (Builtin.Str.occurrences (Str.ofString "\n\t\x0d ") (S [c]) 0 (Str.ofString "\n\t\x0d ").length 1).isEmpty = false) : ws c = true := by
  rw [ws_is] at h; simpa using h
theorem ws_of' {c : Nat} (h : (Builtin.Str.occurrences (Str.ofString "\n\t\x0d ") (S [c]) 0 (Str.ofString "\n\t\x0d ").length 1).isEmpty = true) : ws c = false := by
  rw [ws_is] at h; simpa using h
theorem ws_ne {c : Nat} (h : ws c = true) : c ≠ 92 := by rintro rfl; exact absurd h (by decide)
end Mine
end
-- CN0
section
open PySem PySem.W PyProof.Rows PySem.Calls
set_option Elab.async false
set_option maxRecDepth 100000
namespace Mine
theorem codeAny_weaken {M : Model} {A B : Around} {c : Code} {R : Result → Shared → Prop} {s : Shared}
    (hh : A.handled = B.handled) (hd : A.depth ≤ B.depth) (hf : A.frames = B.frames) (hg : A.guards = B.guards) (hu : A.units ≤ B.units) (h : codeAny M B c R s) : codeAny M A c R s :=
  fun Γ p hc hΓ => h Γ p hc ⟨hΓ.1.trans hh, Nat.le_trans hΓ.2.1 hd, hf ▸ hΓ.2.2.1, hg ▸ hΓ.2.2.2.1, Nat.le_trans hΓ.2.2.2.2 hu⟩
theorem fr_butKeep {h₀ h h' : Heap} {L it : Addr} {m : Str → Option Value} (F : Fr h₀ L h m) (hit : it ≠ L ∧ h₀.get? it = none) (hk : ∀ b o, b ≠ it → h.get? b = some o → h'.get? b = some o) : Fr h₀ L h' m := by
  obtain ⟨oL, a1, a2, hL, a3⟩ := F.ns
  exact ⟨⟨oL, a1, a2, hk _ _ (Ne.symm hit.1) hL, a3⟩, fun b o e => hk b o (fun q => by rw [q, hit.2] at e; cases e) (F.keep b o e), F.above⟩
theorem fr_keepAll {h₀ h h' : Heap} {L : Addr} {m : Str → Option Value} (F : Fr h₀ L h m) (hk : ∀ b o, h.get? b = some o → h'.get? b = some o) : Fr h₀ L h' m := by
  obtain ⟨oL, a1, a2, hL, a3⟩ := F.ns
  exact ⟨⟨oL, a1, a2, hk _ _ hL, a3⟩, fun b o e => hk b o (F.keep b o e), F.above⟩
theorem news_keepAll {h₀ h h' : Heap} {L : Addr} {news : List (Addr × Obj)} (N : News h₀ L h news) (hk : ∀ b o, h.get? b = some o → h'.get? b = some o) : News h₀ L h' news :=
  fun p hp => ⟨hk _ _ (N p hp).1, (N p hp).2⟩
/-- addresses below b, or between lp and q -/
noncomputable def Off (b lp q : Nat) (news : List (Addr × Obj)) : Prop := ∀ p ∈ news, p.1 < b ∨ (lp < p.1 ∧ p.1 < q)
theorem Off.ne {b lp q c : Nat} {news : List (Addr × Obj)} (h : Off b lp q news) (hb : b ≤ c) (hc : c ≤ lp ∨ q ≤ c) : ∀ p ∈ news, p.1 ≠ c := fun p hp e => by
  rcases h p hp with h1 | ⟨h1, h2⟩
  · exact absurd (Nat.lt_of_lt_of_le h1 hb) (e ▸ Nat.lt_irrefl _)
  · rcases hc with hc | hc
    · exact absurd (Nat.lt_of_le_of_lt hc h1) (e ▸ Nat.lt_irrefl _)
    · exact absurd (Nat.lt_of_lt_of_le h2 hc) (e ▸ Nat.lt_irrefl _)
/-- addresses below b, or above lp -/
noncomputable def OffG (b lp : Nat) (news : List (Addr × Obj)) : Prop := ∀ p ∈ news, p.1 < b ∨ lp < p.1
theorem OffG.ne {b lp c : Nat} {news : List (Addr × Obj)} (h : OffG b lp news) (hb : b ≤ c) (hc : c ≤ lp) : ∀ p ∈ news, p.1 ≠ c := fun p hp e => by
  rcases h p hp with h1 | h1
  · exact absurd (Nat.lt_of_lt_of_le h1 hb) (e ▸ Nat.lt_irrefl _)
  · exact absurd (Nat.lt_of_le_of_lt hc h1) (e ▸ Nat.lt_irrefl _)
theorem OffG.off {b lp q : Nat} {news : List (Addr × Obj)} (h : OffG b lp news) (hq : ∀ p ∈ news, p.1 < q) : Off b lp q news := fun p hp => (h p hp).imp id fun x => ⟨x, hq p hp⟩
noncomputable abbrev rcM (l : Lex) : Obj := methodObj (.ref 257) (.ref l.lx)
noncomputable def ItNews (w : World) (l : Lex) (σ : Strm) (it q : Nat) (o : Obj) (k n : Nat) (tk tn : Tok) (news : List (Addr × Obj)) : List (Addr × Obj) := LexNews w l σ k n tk tn ((it, o) :: (q, rcM l) :: news)
theorem news_move {h₀ h : Heap} {L : Addr} {a b c : List (Addr × Obj)} (N : News h₀ L h (a ++ (b ++ c))) : News h₀ L h (b ++ (a ++ c)) := fun p hp => N p (by
  rcases List.mem_append.mp hp with h | h
  · exact List.mem_append_right _ (List.mem_append_left _ h)
  · rcases List.mem_append.mp h with h | h
    · exact List.mem_append_left _ h
    · exact List.mem_append_right _ (List.mem_append_right _ h))
theorem news_drop {h₀ h : Heap} {L : Addr} {a b c : List (Addr × Obj)} (N : News h₀ L h (a ++ (b ++ c))) : News h₀ L h (a ++ c) := fun p hp => N p (by
  rcases List.mem_append.mp hp with h | h
  · exact List.mem_append_left _ h
  · exact List.mem_append_right _ (List.mem_append_right _ h))
theorem news_setAt {h₀ h h' : Heap} {L it : Addr} {o o' : Obj} {a b : List (Addr × Obj)} (N : News h₀ L h (a ++ (it, o) :: b)) (e : h'.get? it = some o') (hk : ∀ c x, c ≠ it → h.get? c = some x → h'.get? c = some x)
    (ha : ∀ p ∈ a, p.1 ≠ it) (hb : ∀ p ∈ b, p.1 ≠ it) : News h₀ L h' (a ++ (it, o') :: b) := fun p hp => by
  rcases List.mem_append.mp hp with h | h
  · have := N p (List.mem_append_left _ h)
    exact ⟨hk _ _ (ha p h) this.1, this.2⟩
  · rcases List.mem_cons.mp h with rfl | h
    · exact ⟨e, (N (it, o) (List.mem_append_right _ (.head _))).2⟩
    · have := N p (List.mem_append_right _ (.tail _ h))
      exact ⟨hk _ _ (hb p h) this.1, this.2⟩
/-- all addresses of the lexer lie below b -/
theorem lexNews_below {w : World} {l : Lex} {σ : Strm} {b : Nat} {k n : Nat} {tk tn : Tok} (hO : σ.Ord) (hL : l.Ord σ) (hb : l.lp < b) (hc : σ.c < b) : ∀ p ∈ LexNews w l σ k n tk tn [], (p.1 : Nat) < b := by
  obtain ⟨o1, o2, o3, _, _, o6, o7, o8⟩ := hO
  obtain ⟨l1, l2, l3⟩ := hL
  have b1 : (l.lx : Nat) < b := Nat.lt_trans l3 hb
  have b2 : (l.dl : Nat) < b := Nat.lt_trans l2 b1
  have b3 : (σ.pb : Nat) < b := Nat.lt_trans l1 b2
  have b4 : (σ.x : Nat) < b := Nat.lt_trans o8 b3
  have b5 : (σ.dx : Nat) < b := Nat.lt_trans o7 b4
  have b6 : (σ.f : Nat) < b := Nat.lt_trans o6 b5
  have b7 : (σ.pl : Nat) < b := Nat.lt_trans o3 b6
  have b8 : (σ.c2 : Nat) < b := Nat.lt_trans o2 b7
  have b9 : (σ.c1 : Nat) < b := Nat.lt_trans o1 b8
  exact List.forall_mem_cons.mpr ⟨b7, List.forall_mem_cons.mpr ⟨b6, List.forall_mem_cons.mpr ⟨hc, List.forall_mem_cons.mpr ⟨b8, List.forall_mem_cons.mpr ⟨b9, List.forall_mem_cons.mpr ⟨b2, List.forall_mem_cons.mpr ⟨b1, List.forall_mem_cons.mpr ⟨hb, List.forall_mem_cons.mpr ⟨b3, List.forall_mem_cons.mpr ⟨b4, List.forall_mem_cons.mpr ⟨b5, fun _ h => nomatch h⟩⟩⟩⟩⟩⟩⟩⟩⟩⟩⟩
theorem itNews_set {w : World} {l : Lex} {σ : Strm} {it q : Nat} {o o' : Obj} {k n : Nat} {tk tn : Tok} {news : List (Addr × Obj)} {h₀ h h' : Heap} {L : Addr}
    (N : News h₀ L h (ItNews w l σ it q o k n tk tn news)) (hO : σ.Ord) (hL : l.Ord σ) (hq : l.lp < q) (hi : q < it) (hc : σ.c < it) (hne : ∀ p ∈ news, p.1 ≠ it)
    (e : h'.get? it = some o') (hk : ∀ b o, b ≠ it → h.get? b = some o → h'.get? b = some o) : News h₀ L h' (ItNews w l σ it q o' k n tk tn news) :=
  news_setAt (a := LexNews w l σ k n tk tn []) (b := (q, rcM l) :: news) N e hk (fun p hp => Nat.ne_of_lt (lexNews_below hO hL (Nat.lt_trans hq hi) hc p hp)) (List.forall_mem_cons.mpr ⟨Nat.ne_of_lt hi, hne⟩)
theorem itNews_of {w : World} {l : Lex} {σ : Strm} {it q : Nat} {o : Obj} {k n : Nat} {tk tn : Tok} {news : List (Addr × Obj)} {h₀ h : Heap} {L : Addr}
    (N : News h₀ L h ((it, o) :: (q, rcM l) :: LexNews w l σ k n tk tn news)) : News h₀ L h (ItNews w l σ it q o k n tk tn news) :=
  news_move (a := [(it, o), (q, rcM l)]) (b := LexNews w l σ k n tk tn []) (c := news) N
theorem itNews_lex {w : World} {l : Lex} {σ : Strm} {it q : Nat} {o : Obj} {k n : Nat} {tk tn : Tok} {news : List (Addr × Obj)} {h₀ h : Heap} {L : Addr}
    (N : News h₀ L h (ItNews w l σ it q o k n tk tn news)) : News h₀ L h (LexNews w l σ k n tk tn news) :=
  news_drop (a := LexNews w l σ k n tk tn []) (b := [(it, o), (q, rcM l)]) (c := news) N
theorem fn257' {w : World} {h₀ h : Heap} {L : Addr} {m : Str → Option Value} (F : Fr h₀ L h m) : (hd.heap_1 w.params).In h₀ → PySem.Challenge.rw_wu0094_01.row.prog = PG → ∃ oc od fd sl, h.get? 257 = some ⟨oc, od, .func fd, sl⟩ := by
  k_fill
  k_with_none
  intro K _
  have hl := K 257 ⟨_, _, .func _, _⟩ (by k_is)
  exact ⟨_, _, _, _, F.keep _ _ hl⟩
theorem fn257 {w : World} {h₀ h : Heap} {L : Addr} {m : Str → Option Value} (K : (hd.heap_1 w.params).In h₀) (F : Fr h₀ L h m) : ∃ oc od fd sl, h.get? 257 = some ⟨oc, od, .func fd, sl⟩ := fn257' F K rfl
end Mine
end
section
open PySem PySem.W PyProof.Rows PySem.Spec PySem.Calls
open Mine
local macro_rules | `(tactic| walk_at $s:str) => `(tactic| k_extra $s)
local macro_rules | `(tactic| k_all) => `(tactic| first | assumption | exact neAll_lt (by assumption) (by omega) | exact Off.ne (by assumption) (by omega) (by omega) | exact neAllLt (by assumption) (by omega) | fail "no bound")
-- E_rchar
section
open PySem PySem.W PyProof.Rows PySem.Spec PySem.Calls
set_option Elab.async false
set_option maxRecDepth 100000
set_option maxHeartbeats 16000000
namespace Mine
theorem c_rchar {w : World} {p : Program} {loose : List Str} {mean : ExcName → Option Value} {mg mb : Str → Option Value} {news : List (Addr × Obj)} {σ : Strm} {l : Lex} {T : List Nat} {k n : Nat} {tk tn : Tok} (hR : Reads w σ T) (hO : σ.Ord) (hL : l.Ord σ) (hk : k < 900) (hn : n < 900) (hne : ∀ q ∈ news, q.1 ≠ σ.pl) (hne2 : ∀ q ∈ news, q.1 ≠ l.dl) :
  ∀ (cn : Str) (nm : List (Str × NameKind)) (mr : List (Str × Const)) (a : Addr) (ccd : Value) (cl : List (Str × Addr)) (outer : List Env) (A₀ : Around) (base h₀ : Heap) (L : Addr) (m : Str → Option Value) (s : Shared) (R : Result → Shared → Prop),
    Below A₀ base outer h₀ → Fr h₀ L s.heap m → (hd.heap_1 w.params).In h₀ → News h₀ L s.heap (LexNews w l σ k n tk tn news) → Top p loose mean mg mb h₀ → CodeHd base 352 348 →
    (∀ (t tk' tn' : Tok) (h' : Heap) (q : Nat), Fr h₀ L h' m → News h₀ L h' (LexNews w l σ (k + (rd T k).length) (n + nl (rd T k)) tk' tn' news) → R (.ok (.ret (.str (S (rd T k)) t))) { s with heap := h', toks := q }) →
      codeAny (model PySem.Challenge.rw_wu0094_01.row.prog w) (ktrTop 850 7000 (some []) cn (fsc nm mr) L a ccd cl outer) (.call (.ref 257) ⟨[.ref l.lx], []⟩) R s := by
  k_fill
  k_with_none
  intro cn nm mr a ccd cl outer A₀ base h₀ L m s R B F K N TT C hret
  have hrl : (rd T k).length ≤ 1 := by simp [rd]; omega
  have hrS : (S (rd T k)).length ≤ 1 := by rw [S_len]; exact hrl
  simp only [LexNews] at N hret
  have hO' := hO
  have hL' := hL
  dsimp only [Strm.Ord] at hO'
  dsimp only [Lex.Ord] at hL'
  k_dflt k_enter
  k_steps
  rename Fr _ _ _ _ => F1
  rename News _ _ _ _ => N1
  refine wpAny_weaken (B := ktrTop 900 8000 (some []) _ (fsc _ _) _ _ _ _ _) rfl (Nat.le_of_ble_eq_true rfl) rfl rfl (Nat.le_of_ble_eq_true rfl) ?_
  refine' hR k _ _ _ _ _ _ _ _ _ _ _ _ _ _ _ _ _ ?rB F1 ?rK ?rN ?rT hO ?rn (by omega) ?rQ
  case rN => first | exact N1 | exact news_tl N1 | exact news_tl (news_tl N1) | exact news_tl (news_tl (news_tl N1))
  case rB => k_asm
  case rK => k_asm
  case rT => k_asm
  case rn => k_all
  intro t9 tk9 h9 n9 F9 N9
  clear F1 N1
  (try dsimp only)
  k_steps
  · rename (S (rd T k) == _) = true => hq
    rename Fr h₀ _ _ _ => F2
    rename News h₀ _ _ _ => N2
    rw [show Str.ofString "
" = S [10] from rfl, S_beq] at hq
    have hq' : rd T k = [10] := by simpa using hq
    have hnl : nl (rd T k) = 1 := by rw [hq']; rfl
    rw [show (n : Int) + 1 = ((n + nl (rd T k) : Nat) : Int) from by rw [hnl]; omega] at N2
    exact hret _ _ _ _ _ F2 N2
  · rename (S (rd T k) == _) = false => hq
    rename Fr h₀ _ _ _ => F2
    rename News h₀ _ _ _ => N2
    rw [show Str.ofString "
" = S [10] from rfl, S_beq] at hq
    have hq' : rd T k ≠ [10] := by simpa using hq
    have hnl : nl (rd T k) = 0 := by
      unfold nl
      cases hr : rd T k with
      | nil => rfl
      | cons c r =>
        rw [hr] at hrl hq'
        have : r = [] := by simpa using hrl
        subst this
        have : c ≠ 10 := fun e => hq' (by rw [e])
        simp [List.count_cons, this]
    rw [hnl, Nat.add_zero] at hret
    exact hret _ _ _ _ _ F2 N2
end Mine
end
-- CN
section
open PySem PySem.W PyProof.Rows PySem.Calls
set_option Elab.async false
set_option maxRecDepth 100000
namespace Mine
noncomputable abbrev itCit (q : Nat) (te : Tok) : Obj := citObj (.ref q) (.str (Str.ofString "") te) false
theorem cit_next {w : World} {A : Around} {p : Program} {loose : List Str} {mean : ExcName → Option Value} {mg mb : Str → Option Value} {news : List (Addr × Obj)}
    {σ : Strm} {l : Lex} {T : List Nat} {k n it q : Nat} {tk tn te : Tok} (hR : Reads w σ T) (hO : σ.Ord) (hL : l.Ord σ) (hk : k < 900) (hn : n < 900) (hq : l.lp < q) (hi : q < it) (hc : σ.c < q) (hne : Off σ.c1 l.lp q news)
    {cn : Str} {nm : List (Str × NameKind)} {mr : List (Str × Const)} {a : Addr} {ccd : Value} {cl : List (Str × Addr)} {outer : List Env} {A₀ : Around} {base h₀ : Heap} {L : Addr} {m : Str → Option Value} {s : Shared} {Q : Option Value → Shared → Prop} {E : Value → Shared → Prop}
    (hA : A.handled = none) (hdp : A.depth ≤ 850) (hf : A.frames = some (envX cn (fsc nm mr) L a ccd cl :: outer)) (hg : A.guards = some []) (hu : A.units + 1 ≤ 7000)
    (B : Below A₀ base outer h₀) (F : Fr h₀ L s.heap m) (K : (hd.heap_1 w.params).In h₀) (N : News h₀ L s.heap (ItNews w l σ it q (itCit q te) k n tk tn news)) (TT : Top p loose mean mg mb h₀) (C : CodeHd base 352 348)
    (h0 : T.drop k = [] → ∀ (h' : Heap) (tk' tk2 tn2 : Nat), Fr h₀ L h' m → News h₀ L h' (ItNews w l σ it q citEnd k n tk2 tn2 news) → Q none { s with heap := h', toks := tk' })
    (h1 : ∀ c r, T.drop k = c :: r → ∀ (t : Tok) (h' : Heap) (tk' tk2 tn2 : Nat), Fr h₀ L h' m → News h₀ L h' (ItNews w l σ it q (itCit q te) (k + 1) (n + nl [c]) tk2 tn2 news) → Q (some (.str (S [c]) t)) { s with heap := h', toks := tk' }) :
    wpAny (model PG w) A (pyNext (.ref it)) Q E s := by
  have hO' := hO
  have hL' := hL
  dsimp only [Strm.Ord] at hO'
  dsimp only [Lex.Ord] at hL'
  have mit : ∀ o k n tk tn, (it, o) ∈ ItNews w l σ it q o k n tk tn news := fun o k n tk tn => by simp [ItNews, LexNews]
  have mq : ∀ o k n tk tn, (q, rcM l) ∈ ItNews w l σ it q o k n tk tn news := fun o k n tk tn => by simp [ItNews, LexNews]
  refine next_call hA (N _ (mit _ _ _ _ _)).1 (N _ (mq _ _ _ _ _)).1 (fn257 K F) ?_
  refine codeAny_weaken (B := ktrTop 850 7000 (some []) cn (fsc nm mr) L a ccd cl outer) hA hdp hf hg hu ?_
  have hx1 : ∀ o, ∀ p ∈ (it, o) :: (q, rcM l) :: news, p.1 ≠ σ.pl := fun o p hp => by
    simp only [List.mem_cons] at hp
    rcases hp with rfl | rfl | hp
    · refine neN ?_; dsimp only; omega
    · refine neN ?_; dsimp only; omega
    · exact hne.ne (by omega) (by omega) p hp
  have hx2 : ∀ o, ∀ p ∈ (it, o) :: (q, rcM l) :: news, p.1 ≠ l.dl := fun o p hp => by
    simp only [List.mem_cons] at hp
    rcases hp with rfl | rfl | hp
    · refine neN ?_; dsimp only; omega
    · refine neN ?_; dsimp only; omega
    · exact hne.ne (by omega) (by omega) p hp
  have hx3 : ∀ p ∈ news, p.1 ≠ it := hne.ne (by omega) (by omega)
  refine c_rchar hR hO hL hk hn (hx1 _) (hx2 _) cn nm mr a ccd cl outer A₀ base h₀ L m s _ B F K N TT C fun t tk' tn' h' qq F' N' => ?_
  change News h₀ L h' (ItNews w l σ it q (itCit q te) _ _ tk' tn' news) at N'
  refine ⟨_, _, rfl, (N' _ (mit _ _ _ _ _)).1, (N' _ (mq _ _ _ _ _)).1, fn257 K F', ?_⟩
  cases hdr : T.drop k with
  | nil =>
    have hr := rd_nil hdr
    rw [hr] at N' ⊢
    rw [if_pos (show Str.ofString "" = S [] from rfl)]
    intro h2 e2 k2
    have hit := (N' _ (mit _ _ _ _ _)).2
    exact h0 hdr h2 _ _ _ (fr_butKeep F' hit k2) (itNews_set N' hO hL hq hi (by omega) hx3 e2 k2)
  | cons c r =>
    obtain ⟨hr, _, _⟩ := rd_cons hdr
    rw [hr] at N' ⊢
    rw [if_neg (show ¬ (Str.ofString "" = S [c]) from fun e => by have := congrArg (fun x : Str => x.cps.toList.length) e; simp [S] at this; exact absurd this (by decide))]
    exact h1 c r hdr _ h' _ _ _ F' N'
end Mine
end
-- E_tok
section
open PySem PySem.W PyProof.Rows PySem.Spec PySem.Calls
set_option Elab.async false
set_option maxRecDepth 100000
set_option maxHeartbeats 16000000
namespace Mine
theorem via6 {α β γ δ ε ζ : Type _} {G : Prop} (P : α → β → γ → δ → ε → ζ → Prop) (h : ∃ a b c d e f, P a b c d e f ∧ (P a b c d e f → G)) : G := by obtain ⟨_, _, _, _, _, _, p, m⟩ := h; exact m p
noncomputable abbrev JIn (X : List Nat → List Nat → List Nat × List Nat) (w : World) (σ : Strm) (l : Lex) (T : List Nat) (k n k' it9 q1 : Nat) (te : Tok) (news : List (Addr × Obj)) (nn : Nat) (m₁ : Str → Option Value) (news₁ : List (Addr × Obj)) : Prop :=
  ∃ (k5 n5 : Nat) (tk5 tn5 tt5 : Tok) (acc : List Nat), m₁ "self" = some (.ref l.lx) ∧ m₁ "fiter" = some (.ref it9) ∧ m₁ "token" = some (.str (S acc) tt5) ∧ k' < k5 ∧ k5 ≤ T.length ∧ n5 + nl (T.drop k5) = n + nl (T.drop k) ∧ acc.length ≤ k5 ∧
    news₁ = ItNews w l σ it9 q1 (itCit q1 te) k5 n5 tk5 tn5 news ∧ X acc (T.drop k5) = tok (T.drop k) ∧ nn = T.length - k5
noncomputable abbrev JOut (w : World) (σ : Strm) (l : Lex) (T : List Nat) (k n it9 q1 : Nat) (te : Tok) (news : List (Addr × Obj)) (nn : Nat) (m₁ : Str → Option Value) (news₁ : List (Addr × Obj)) : Prop :=
  ∃ (k' n' : Nat) (tk2 tn2 tt : Tok) (acc : List Nat), m₁ "self" = some (.ref l.lx) ∧ m₁ "fiter" = some (.ref it9) ∧ m₁ "token" = some (.str (S acc) tt) ∧ k' ≤ T.length ∧ n' + nl (T.drop k') = n + nl (T.drop k) ∧
    ((news₁ = ItNews w l σ it9 q1 (itCit q1 te) k' n' tk2 tn2 news ∧ acc = [] ∧ tok (T.drop k') = tok (T.drop k) ∧ nn = 2 * (T.length - k')) ∨ (news₁ = ItNews w l σ it9 q1 citEnd k' n' tk2 tn2 news ∧ (acc, []) = tok (T.drop k) ∧ T.drop k' = [] ∧ nn = 2 * (T.length - k') + 1))
theorem c_tok {w : World} {p : Program} {loose : List Str} {mean : ExcName → Option Value} {mg mb : Str → Option Value} {news : List (Addr × Obj)} {σ : Strm} {l : Lex} {T : List Nat} {k n : Nat} {tk tn : Tok} (hR : Reads w σ T) (hO : σ.Ord) (hL : l.Ord σ) (hT : T.length < 200) (hk : k ≤ T.length) (hn : n + nl (T.drop k) ≤ 400) (hne0 : OffG σ.c1 l.lp news) :
  ∀ (cn : Str) (nm : List (Str × NameKind)) (mr : List (Str × Const)) (a : Addr) (ccd : Value) (cl : List (Str × Addr)) (outer : List Env) (A₀ : Around) (base h₀ : Heap) (L : Addr) (m : Str → Option Value) (s : Shared) (R : Result → Shared → Prop),
    Below A₀ base outer h₀ → Fr h₀ L s.heap m → (hd.heap_1 w.params).In h₀ → News h₀ L s.heap (LexNews w l σ k n tk tn news) → Top p loose mean mg mb h₀ → CodeHd base 352 348 →
    (∀ (k' n' : Nat) (t tk' tn' : Tok) (h' : Heap) (q : Nat), T.drop k' = (tok (T.drop k)).2 → k' ≤ T.length → n' + nl (T.drop k') = n + nl (T.drop k) → Fr h₀ L h' m → News h₀ L h' (LexNews w l σ k' n' tk' tn' news) → R (.ok (.ret (.str (S (tok (T.drop k)).1) t))) { s with heap := h', toks := q }) →
      codeAny (model PySem.Challenge.rw_wu0094_01.row.prog w) (ktrTop 800 6000 (some []) cn (fsc nm mr) L a ccd cl outer) (.call (.ref 264) ⟨[.ref l.lx], []⟩) R s := by
  k_fill
  k_with_none
  intro cn nm mr a ccd cl outer A₀ base h₀ L m s R B F K N TT C hret
  obtain ⟨hpz, gz, dz, tz, oz⟩ := s
  dsimp only at F N hret
  (k_with "execs cons" => ((rename Fr _ _ _ _ => FZ); refine gtkF FZ gz dz oz rfl ?_; intro tkF))
  simp only [LexNews] at N
  have hO' := hO
  have hL' := hL
  dsimp only [Strm.Ord] at hO'
  dsimp only [Lex.Ord] at hL'
  k_dflt k_enter
  (k_with "exec For Name Name cons nil" => refine halt ?_)
  (k_with "truthy ref" => (refine wpAny_truthy_list (items := #[]) (News.isList (by k_asm) (by k_mem)) (by decide) ?_); (try dsimp only))
  (k_with "call builtin:iter" => (refine' iter_sent ?iF ?iN ?iq ?_); (case iF => k_asm); (case iN => k_asm); (case iq => k_mem); intro it9 h9 F9 N9 l9; k_lt l9)
  k_steps
  k_with_none
  (k_with "execs cons" => ((rename Fr _ _ _ _ => FZ); refine gtkF FZ gz dz oz rfl ?_; intro tkF))
  refine unhalt ?_
  rename_i q1 h3 l1 h4 N1
  rename Fr _ _ _ _ => F1
  rename Below _ _ _ _ => B1
  rename Frag.In _ _ => K1
  rename Top _ _ _ _ _ _ => T1
  refine For_w F1 ?_
  (k_with "pyIter ref" => (refine iter_cit (News.get N1 (by k_mem)) ?_; refine halt ?_))
  k_steps
  refine unhalt ?_
  k_with_none
  (k_with "execs cons" => ((rename Fr _ _ _ _ => FZ); refine gtkF FZ gz dz oz rfl ?_; intro tkF))
  have hne : Off σ.c1 l.lp q1 news := hne0.off (by first | exact allLt_all l1 (Nat.le_refl _) | exact allLt_all l1.2 (Nat.le_refl _) | exact allLt_all l1.2.2 (Nat.le_refl _) | exact allLt_all l1.2.2.2 (Nat.le_refl _) | exact allLt_all l1.2.2.2.2 (Nat.le_refl _) | exact allLt_all l1.2.2.2.2.2 (Nat.le_refl _) | exact allLt_all l1.2.2.2.2.2.2 (Nat.le_refl _) | exact allLt_all l1.2.2.2.2.2.2.2 (Nat.le_refl _) | exact allLt_all l1.2.2.2.2.2.2.2.2 (Nat.le_refl _) | exact allLt_all l1.2.2.2.2.2.2.2.2.2 (Nat.le_refl _) | exact allLt_all l1.2.2.2.2.2.2.2.2.2.2 (Nat.le_refl _) | exact allLt_all l1.2.2.2.2.2.2.2.2.2.2.2 (Nat.le_refl _) | exact allLt_all l1.2.2.2.2.2.2.2.2.2.2.2.2 (Nat.le_refl _) | exact allLt_all l1.2.2.2.2.2.2.2.2.2.2.2.2.2 (Nat.le_refl _) | exact allLt_all l1.2.2.2.2.2.2.2.2.2.2.2.2.2.2 (Nat.le_refl _))
  have hx1 : ∀ {o : Obj}, ∀ p ∈ (it9, o) :: (q1, rcM l) :: news, p.1 ≠ σ.pl := fun {o} p hp => by
    simp only [List.mem_cons] at hp
    rcases hp with rfl | rfl | hp
    · refine neN ?_; dsimp only; omega
    · refine neN ?_; dsimp only; omega
    · exact hne.ne (by omega) (by omega) p hp
  have hx2 : ∀ {o : Obj}, ∀ p ∈ (it9, o) :: (q1, rcM l) :: news, p.1 ≠ l.dl := fun {o} p hp => by
    simp only [List.mem_cons] at hp
    rcases hp with rfl | rfl | hp
    · refine neN ?_; dsimp only; omega
    · refine neN ?_; dsimp only; omega
    · exact hne.ne (by omega) (by omega) p hp
  obtain ⟨te, N1⟩ : ∃ te, News _ _ _ (ItNews w l σ it9 q1 (itCit q1 te) k n _ _ news) := ⟨_, itNews_of (w := w) (l := l) (σ := σ) (it := it9) (q := q1) (o := itCit q1 _) N1⟩
  refine ⟨JOut w σ l T k n it9 q1 te news, 2 * (T.length - k), _, _, F1, N1, ?_, ?_⟩
  · exact ⟨k, n, _, _, _, [], rfl, rfl, rfl, hk, rfl, .inl ⟨rfl, rfl, rfl, rfl⟩⟩
  clear F1 N1
  rintro nn m₁ news₁ h₁ tk₁ - F1 N1 ⟨k', n', tk2, tn2, tt, acc, e1, e2, e3, hk', hn', hJ⟩
  replace F1 := fr_pin3 F1 e1 e2 e3
  rcases hJ with ⟨rfl, rfl, htok, hnn⟩ | ⟨rfl, hacc, hdr, hnn⟩
  · refine cit_next hR hO hL (by omega) (by omega) ?y1 ?y2 ?y3 hne rfl (Nat.le_of_ble_eq_true rfl) rfl rfl (Nat.le_of_ble_eq_true rfl) B1 F1 K1 N1 T1 C ?z0 ?z1
    case y1 => omega
    case y2 => omega
    case y3 => omega
    case z0 =>
      intro hd h' tk' tk2 tn2 F2 N2
      dsimp only
      k_steps
      rename Fr h₀ _ _ _ => F5
      rename News h₀ _ _ _ => N5
      rw [hd, tok] at htok
      have hz := hret k' n' tt tk2 tn2 h' tk' (by rw [hd, ← htok]) hk' hn' F5 (itNews_lex N5)
      rw [← htok] at hz
      exact hz
    case z1 =>
      intro c r hd t h' tk' tk2 tn2 F2 N2
      obtain ⟨hrd, hdr, hlt⟩ := rd_cons hd
      rw [hd] at htok hn'
      have hnl : nl (c :: r) = nl [c] + nl r := by simp only [nl, List.count_cons, List.count_nil]; omega
      have hSc : (S [c]).length = 1 := by rw [S_len]; rfl
      have hSa : (S []).length = 0 := by rw [S_len]; rfl
      dsimp only
      refine via6 (fun (Ax : Around) (tr : Sem Flow) (Qx : Flow → Shared → Prop) (Ex : Value → Shared → Prop) (gx : Heap) (Lx : Addr) => ∀ (kcur n9 : Nat) (acc0 : List Nat) (h3 : Heap) (tkS : Nat) (m3 : Str → Option Value) (tkA tnA ttA : Tok), m3 "self" = some (.ref l.lx) → m3 "fiter" = some (.ref it9) → m3 "token" = some (.str (S acc0) ttA) →
        Fr gx Lx h3 m3 → News gx Lx h3 (ItNews w l σ it9 q1 (itCit q1 te) kcur n9 tkA tnA news) → k' < kcur → kcur ≤ T.length → n9 + nl (T.drop kcur) = n + nl (T.drop k) → acc0.length ≤ kcur → plain acc0 (T.drop kcur) = tok (T.drop k) →
        wpAny (model PySem.Challenge.rw_wu0094_01.row.prog w) Ax tr Qx Ex ⟨h3, gz, dz, tkS, oz⟩) ?vx
      iterate 6 apply Exists.intro
      apply And.intro
      case right =>
        intro plainL
        (k_with "exec For Name Name cons nil" => refine halt ?_)
        (k_with "call ref" => refine halt ?_)
        k_steps
        · rename (S [c] == _) = true => hq
          rw [show Str.ofString "\"" = S [34] from rfl, S_beq] at hq
          have hc : c = 34 := by simpa using hq
          subst hc
          rw [tok_c _ (by decide), if_neg (by decide), if_pos rfl] at htok
          refine unhalt ?_
          rename Fr _ _ _ _ => F3
          rename News _ _ _ _ => N3
          refine For_w F3 ?_
          k_with_none
          (k_with "execs cons" => ((rename Fr _ _ _ _ => FZ); refine gtkF FZ gz dz oz rfl ?_; intro tkF))
          (k_with "pyIter ref" => (refine iter_cit (N3 (it9, itCit q1 te) (.tail _ (.tail _ (.tail _ (.tail _ (.tail _ (.tail _ (.tail _ (.tail _ (.tail _ (.tail _ (.tail _ (.head _))))))))))))).1 ?_; refine halt ?_))
          k_steps
          refine unhalt ?_
          k_with_none
          (k_with "execs cons" => ((rename Fr _ _ _ _ => FZ); refine gtkF FZ gz dz oz rfl ?_; intro tkF))
          (k_with "call ref" => refine halt ?_)
          have hstart : quoted [] (T.drop (k' + 1)) = tok (T.drop k) := by rw [hdr, htok]
          refine ⟨JIn quoted w σ l T k n k' it9 q1 te news, T.length - (k' + 1), _, _, F3, N3, ?_, ?_⟩
          · exact ⟨k' + 1, _, _, _, _, [], rfl, rfl, vstr (by first | rfl | (rw [S_app]; done) | (rw [S_app]; rfl)), by omega, by omega, by rw [hdr]; omega, by simp <;> omega, rfl, hstart, rfl⟩
          clear F3 N3
          rintro nn5 m₁ news₁ h₁ tk₁ - F1 N1 ⟨k5, n5, tk5, tn5, tt5, acc, e1, e2, e3, hk5, hk5', hn5, hacc, rfl, hX, hnn5⟩
          replace F1 := fr_pin3 F1 e1 e2 e3
          have hSa5 : (S acc).length ≤ 200 := by rw [S_len]; omega
          refine cit_next hR hO hL (by omega) (by omega) ?y1 ?y2 ?y3 hne rfl (Nat.le_of_ble_eq_true rfl) rfl rfl (Nat.le_of_ble_eq_true rfl) B1 F1 K1 N1 T1 C ?z0 ?z1
          case y1 => omega
          case y2 => omega
          case y3 => omega
          case z0 =>
            intro hd5 h' tk' tk6 tn6 F2 N2
            rw [hd5] at hX
            dsimp only
            k_steps
            rename Fr _ _ _ _ => F5
            rename News _ _ _ _ => N5
            refine WStep.intro F5 N5 (n' := 2 * (T.length - k5) + 1) (by omega) ⟨k5, n5, _, _, _, acc, rfl, rfl, rfl, hk5', hn5, .inr ⟨rfl, by rw [← hX]; simp [quoted], hd5, rfl⟩⟩
          case z1 =>
            intro c5 r5 hd5 t5 h' tk' tk6 tn6 F2 N2
            obtain ⟨hrd5, hdr5, hlt5⟩ := rd_cons hd5
            have hSc5 : (S [c5]).length = 1 := by rw [S_len]; rfl
            rw [hd5] at hX hn5
            have hnl5 : nl (c5 :: r5) = nl [c5] + nl r5 := by simp only [nl, List.count_cons, List.count_nil]; omega
            dsimp only
            k_steps
            · rename (S [c5] == _) = true => hq5
              rw [show Str.ofString "\"" = S [34] from rfl, S_beq] at hq5
              have hc5 : c5 = 34 := by simpa using hq5
              rw [quoted_c _ _ (by rw [hc5]; decide), if_pos hc5] at hX
              dsimp only
              refine WStep.ret ?_
              dsimp only
              refine WStep.ret ?_
              dsimp only
              k_steps
              rename Fr h₀ _ _ _ => F5
              rename News h₀ _ _ _ => N5
              have ez1 : (tok (T.drop k)).1 = acc := by rw [← hX]
              have ez2 : (tok (T.drop k)).2 = r5 := by rw [← hX]
              rw [ez1, ez2] at hret
              exact hret (k5 + 1) (n5 + nl [c5]) tt5 tk6 tn6 _ _ hdr5 (by omega) (by rw [hdr5]; omega) F5 (itNews_lex N5)
            · rename (S [c5] == Str.ofString "\\") = true => hq5
              rw [show Str.ofString "\\" = S [92] from rfl, S_beq] at hq5
              have hc5 : c5 = 92 := by simpa using hq5
              refine unhalt ?_
              rename Fr _ _ _ _ => F3
              rename News _ _ _ _ => N3
              (try dsimp only [List.nil_append, List.cons_append, List.append_nil])
              refine wpAny_weaken (B := ktrTop 850 7000 (some []) _ (fsc _ _) _ _ _ _ _) rfl (Nat.le_of_ble_eq_true rfl) rfl rfl (Nat.le_of_ble_eq_true rfl) (wpAny_call (c_rchar (k := k5 + 1) (news := (it9, itCit q1 te) :: (q1, rcM l) :: news) hR hO hL (by omega) (by omega) hx1 hx2 _ _ _ _ _ _ _ _ _ _ _ _ _ _ B1 F3 K1 N3 T1 C ?rr2))
              intro t7 tk7 tn7 h7 q7 F4 N4
              clear F3 N3
              dsimp only
              cases hd8 : T.drop (k5 + 1) with
              | nil =>
                rw [rd_nil hd8] at N4 ⊢
                k_steps
                rw [hc5, ← hdr5, hd8, quoted_b1] at hX
                rename Fr _ _ _ _ => F5
                rename News _ _ _ _ => N5
                have hSz : S acc ++ S [] = S acc := by rw [S_app, List.append_nil]
                refine WStep.intro F5 N5 (n' := T.length - (k5 + 1)) (by omega) ⟨k5 + 1, n5 + nl [c5], _, _, _, acc, rfl, rfl, vstr hSz, by omega, by omega, by rw [hdr5]; omega, by omega, rfl, by rw [hd8, ← hX]; simp [quoted], rfl⟩
              | cons d8 r8 =>
                obtain ⟨hrd8, hdr8, hlt8⟩ := rd_cons hd8
                rw [hrd8] at N4 ⊢
                have hSd8 : (S [d8]).length = 1 := by rw [S_len]; rfl
                rw [← hdr5, hd8] at hX hn5 hnl5
                rw [hc5] at hX
                have hnl8 : nl (d8 :: r8) = nl [d8] + nl r8 := by simp only [nl, List.count_cons, List.count_nil]; omega
                k_steps
                rw [quoted_b2] at hX
                rename Fr _ _ _ _ => F5
                rename News _ _ _ _ => N5
                refine WStep.intro F5 N5 (n' := T.length - (k5 + 1 + 1)) (by omega) ⟨k5 + 1 + 1, n5 + nl [c5] + nl [d8], _, _, _, acc ++ [d8], rfl, rfl, vstr (by rw [S_app]), by omega, by omega, by first | (rw [hdr5]; omega) | (rw [hdr8]; omega), by simp <;> omega, rfl, by first | rw [hdr5, hX] | rw [hdr8, hX], rfl⟩
            · rename (S [c5] == Str.ofString "\"") = false => hq5
              rename (S [c5] == Str.ofString "\\") = false => hq6
              rw [show Str.ofString "\"" = S [34] from rfl, S_beq] at hq5
              rw [show Str.ofString "\\" = S [92] from rfl, S_beq] at hq6
              have hc5 : c5 ≠ 34 := by simpa using hq5
              have hc6 : c5 ≠ 92 := by simpa using hq6
              rw [quoted_c _ _ hc6, if_neg hc5] at hX
              rename Fr _ _ _ _ => F5
              rename News _ _ _ _ => N5
              refine WStep.intro F5 N5 (n' := T.length - (k5 + 1)) (by omega) ⟨k5 + 1, n5 + nl [c5], _, _, _, acc ++ [c5], rfl, rfl, vstr (by rw [S_app]), by omega, by omega, by first | (rw [hdr5]; omega) | (rw [hdr8]; omega), by simp <;> omega, rfl, by first | rw [hdr5, hX] | rw [hdr8, hX], rfl⟩
        · rename (S [c] == Str.ofString "\"") = false => hq0
          rename List.isEmpty _ = true => hw0
          rename (S [c] == Str.ofString "\\") = true => hq
          rw [show Str.ofString "\\" = S [92] from rfl, S_beq] at hq
          have hc : c = 92 := by simpa using hq
          refine unhalt ?_
          rename Fr _ _ _ _ => F3
          rename News _ _ _ _ => N3
          (try dsimp only [List.nil_append, List.cons_append, List.append_nil])
          refine wpAny_weaken (B := ktrTop 850 7000 (some []) _ (fsc _ _) _ _ _ _ _) rfl (Nat.le_of_ble_eq_true rfl) rfl rfl (Nat.le_of_ble_eq_true rfl) (wpAny_call (c_rchar (k := k' + 1) (news := (it9, itCit q1 te) :: (q1, rcM l) :: news) hR hO hL (by omega) (by omega) hx1 hx2 _ _ _ _ _ _ _ _ _ _ _ _ _ _ B1 F3 K1 N3 T1 C ?rr5))
          intro t7 tk7 tn7 h7 q7 F4 N4
          clear F3 N3
          dsimp only
          cases hd8 : T.drop (k' + 1) with
          | nil =>
            rw [rd_nil hd8] at N4 ⊢
            have hSz : (S []).length = 0 := by rw [S_len]; rfl
            have hnl0 : nl [] = 0 := rfl
            k_steps
            rw [hc, ← hdr, hd8, tok_b1] at htok
            refine unhalt ?_
            rename Fr _ _ _ _ => F3
            rename News _ _ _ _ => N3
            have hstart : plain [] (T.drop (k' + 1)) = tok (T.drop k) := by rw [hd8, ← htok]; simp [plain]
            refine plainL (k' + 1) _ [] _ _ _ _ _ _ rfl rfl (vstr (by first | rfl | (rw [S_app]; done) | (rw [S_app]; rfl))) F3 N3 ?ua3 ?ub3 ?uc3 ?ud3 hstart
            case ua3 => omega
            case ub3 => omega
            case uc3 => rw [hdr]; omega
            case ud3 => simp <;> omega
          | cons d8 r8 =>
            obtain ⟨hrd8, hdr8, hlt8⟩ := rd_cons hd8
            rw [hrd8] at N4 ⊢
            have hSd8 : (S [d8]).length = 1 := by rw [S_len]; rfl
            rw [← hdr, hd8] at htok hn' hnl
            rw [hc, tok_b2] at htok
            have hnl8 : nl (d8 :: r8) = nl [d8] + nl r8 := by simp only [nl, List.count_cons, List.count_nil]; omega
            k_steps
            refine unhalt ?_
            rename Fr _ _ _ _ => F3
            rename News _ _ _ _ => N3
            have hstart : plain [d8] (T.drop (k' + 1 + 1)) = tok (T.drop k) := by rw [hdr8, htok]
            refine plainL (k' + 1 + 1) _ [d8] _ _ _ _ _ _ rfl rfl (vstr (by first | rfl | (rw [S_app]; done) | (rw [S_app]; rfl))) F3 N3 ?ua4 ?ub4 ?uc4 ?ud4 hstart
            case ua4 => omega
            case ub4 => omega
            case uc4 => rw [hdr8]; omega
            case ud4 => simp <;> omega
        · rename (S [c] == Str.ofString "\"") = false => hq0
          rename List.isEmpty _ = true => hw0
          rename (S [c] == Str.ofString "\\") = false => hq
          have hws0 := ws_of' hw0
          rw [show Str.ofString "\"" = S [34] from rfl, S_beq] at hq0
          rw [show Str.ofString "\\" = S [92] from rfl, S_beq] at hq
          have hc0 : c ≠ 34 := by simpa using hq0
          have hc : c ≠ 92 := by simpa using hq
          rw [tok_c _ hc, if_neg (by rw [hws0]; decide), if_neg hc0] at htok
          refine unhalt ?_
          rename Fr _ _ _ _ => F3
          rename News _ _ _ _ => N3
          have hstart : plain [c] (T.drop (k' + 1)) = tok (T.drop k) := by rw [hdr, htok]
          refine plainL (k' + 1) _ [c] _ _ _ _ _ _ rfl rfl (vstr (by first | rfl | (rw [S_app]; done) | (rw [S_app]; rfl))) F3 N3 ?ua6 ?ub6 ?uc6 ?ud6 hstart
          case ua6 => omega
          case ub6 => omega
          case uc6 => rw [hdr]; omega
          case ud6 => simp <;> omega
        · rename List.isEmpty _ = false => hw0
          have hws0 := ws_of hw0
          rw [tok_c _ (ws_ne hws0), if_pos hws0] at htok
          dsimp only
          rename Fr _ _ _ _ => F5
          rename News _ _ _ _ => N5
          refine WStep.introC F5 N5 (n' := 2 * (T.length - (k' + 1))) (by omega) ⟨k' + 1, n' + nl [c], _, _, _, [], rfl, rfl, rfl, by omega, by rw [hdr]; omega, .inl ⟨rfl, rfl, by rw [hdr, htok], rfl⟩⟩
      case left =>
        intro kcur n9 acc0 h3 tkS m3 tkA tnA ttA q1e q2e q3e F3 N3 hkc hkT hn9 hac hst
        replace F3 := fr_pin3 F3 q1e q2e q3e
        refine For_w F3 ?_
        k_with_none
        (k_with "execs cons" => ((rename Fr _ _ _ _ => FZ); refine gtkF FZ gz dz oz rfl ?_; intro tkF))
        (k_with "pyIter ref" => (refine iter_cit (N3 (it9, itCit q1 te) (.tail _ (.tail _ (.tail _ (.tail _ (.tail _ (.tail _ (.tail _ (.tail _ (.tail _ (.tail _ (.tail _ (.head _))))))))))))).1 ?_; refine halt ?_))
        k_steps
        refine unhalt ?_
        k_with_none
        (k_with "execs cons" => ((rename Fr _ _ _ _ => FZ); refine gtkF FZ gz dz oz rfl ?_; intro tkF))
        (k_with "call ref" => refine halt ?_)
        have hstart : plain acc0 (T.drop (kcur)) = tok (T.drop k) := hst
        refine ⟨JIn plain w σ l T k n k' it9 q1 te news, T.length - (kcur), _, _, F3, N3, ?_, ?_⟩
        · exact ⟨kcur, _, _, _, _, acc0, rfl, rfl, vstr (by first | rfl | (rw [S_app]; done) | (rw [S_app]; rfl)), by omega, by omega, by exact hn9, hac, rfl, hstart, rfl⟩
        clear F3 N3
        rintro nn5 m₁ news₁ h₁ tk₁ - F1 N1 ⟨k5, n5, tk5, tn5, tt5, acc, e1, e2, e3, hk5, hk5', hn5, hacc, rfl, hX, hnn5⟩
        replace F1 := fr_pin3 F1 e1 e2 e3
        have hSa5 : (S acc).length ≤ 200 := by rw [S_len]; omega
        refine cit_next hR hO hL (by omega) (by omega) ?y1 ?y2 ?y3 hne rfl (Nat.le_of_ble_eq_true rfl) rfl rfl (Nat.le_of_ble_eq_true rfl) B1 F1 K1 N1 T1 C ?z0 ?z1
        case y1 => omega
        case y2 => omega
        case y3 => omega
        case z0 =>
          intro hd5 h' tk' tk6 tn6 F2 N2
          rw [hd5] at hX
          dsimp only
          k_steps
          rename Fr _ _ _ _ => F5
          rename News _ _ _ _ => N5
          refine WStep.intro F5 N5 (n' := 2 * (T.length - k5) + 1) (by omega) ⟨k5, n5, _, _, _, acc, rfl, rfl, rfl, hk5', hn5, .inr ⟨rfl, by rw [← hX]; simp [plain], hd5, rfl⟩⟩
        case z1 =>
          intro c5 r5 hd5 t5 h' tk' tk6 tn6 F2 N2
          obtain ⟨hrd5, hdr5, hlt5⟩ := rd_cons hd5
          have hSc5 : (S [c5]).length = 1 := by rw [S_len]; rfl
          rw [hd5] at hX hn5
          have hnl5 : nl (c5 :: r5) = nl [c5] + nl r5 := by simp only [nl, List.count_cons, List.count_nil]; omega
          dsimp only
          k_steps
          · rename (S [c5] == Str.ofString "\\") = true => hq5
            rw [show Str.ofString "\\" = S [92] from rfl, S_beq] at hq5
            have hc5 : c5 = 92 := by simpa using hq5
            refine unhalt ?_
            rename Fr _ _ _ _ => F3
            rename News _ _ _ _ => N3
            (try dsimp only [List.nil_append, List.cons_append, List.append_nil])
            refine wpAny_weaken (B := ktrTop 850 7000 (some []) _ (fsc _ _) _ _ _ _ _) rfl (Nat.le_of_ble_eq_true rfl) rfl rfl (Nat.le_of_ble_eq_true rfl) (wpAny_call (c_rchar (k := k5 + 1) (news := (it9, itCit q1 te) :: (q1, rcM l) :: news) hR hO hL (by omega) (by omega) hx1 hx2 _ _ _ _ _ _ _ _ _ _ _ _ _ _ B1 F3 K1 N3 T1 C ?rr1))
            intro t7 tk7 tn7 h7 q7 F4 N4
            clear F3 N3
            dsimp only
            cases hd8 : T.drop (k5 + 1) with
            | nil =>
              rw [rd_nil hd8] at N4 ⊢
              k_steps
              rw [hc5, ← hdr5, hd8, plain_b1] at hX
              rename Fr _ _ _ _ => F5
              rename News _ _ _ _ => N5
              have hSz : S acc ++ S [] = S acc := by rw [S_app, List.append_nil]
              refine WStep.intro F5 N5 (n' := T.length - (k5 + 1)) (by omega) ⟨k5 + 1, n5 + nl [c5], _, _, _, acc, rfl, rfl, vstr hSz, by omega, by omega, by rw [hdr5]; omega, by omega, rfl, by rw [hd8, ← hX]; simp [plain], rfl⟩
            | cons d8 r8 =>
              obtain ⟨hrd8, hdr8, hlt8⟩ := rd_cons hd8
              rw [hrd8] at N4 ⊢
              have hSd8 : (S [d8]).length = 1 := by rw [S_len]; rfl
              rw [← hdr5, hd8] at hX hn5 hnl5
              rw [hc5] at hX
              have hnl8 : nl (d8 :: r8) = nl [d8] + nl r8 := by simp only [nl, List.count_cons, List.count_nil]; omega
              k_steps
              rw [plain_b2] at hX
              rename Fr _ _ _ _ => F5
              rename News _ _ _ _ => N5
              refine WStep.intro F5 N5 (n' := T.length - (k5 + 1 + 1)) (by omega) ⟨k5 + 1 + 1, n5 + nl [c5] + nl [d8], _, _, _, acc ++ [d8], rfl, rfl, vstr (by rw [S_app]), by omega, by omega, by first | (rw [hdr5]; omega) | (rw [hdr8]; omega), by simp <;> omega, rfl, by first | rw [hdr5, hX] | rw [hdr8, hX], rfl⟩
          · rename List.isEmpty _ = true => hw5
            rename (S [c5] == Str.ofString "\\") = false => hq6
            have hws5 := ws_of' hw5
            rw [show Str.ofString "\\" = S [92] from rfl, S_beq] at hq6
            have hc6 : c5 ≠ 92 := by simpa using hq6
            rw [plain_c _ _ hc6, if_neg (by rw [hws5]; decide)] at hX
            rename Fr _ _ _ _ => F5
            rename News _ _ _ _ => N5
            refine WStep.intro F5 N5 (n' := T.length - (k5 + 1)) (by omega) ⟨k5 + 1, n5 + nl [c5], _, _, _, acc ++ [c5], rfl, rfl, vstr (by rw [S_app]), by omega, by omega, by first | (rw [hdr5]; omega) | (rw [hdr8]; omega), by simp <;> omega, rfl, by first | rw [hdr5, hX] | rw [hdr8, hX], rfl⟩
          · rename List.isEmpty _ = false => hw5
            have hws5 := ws_of hw5
            rw [plain_c _ _ (ws_ne hws5), if_pos hws5] at hX
            dsimp only
            refine WStep.ret ?_
            dsimp only
            refine WStep.ret ?_
            dsimp only
            k_steps
            rename Fr h₀ _ _ _ => F5
            rename News h₀ _ _ _ => N5
            have ez1 : (tok (T.drop k)).1 = acc := by rw [← hX]
            have ez2 : (tok (T.drop k)).2 = r5 := by rw [← hX]
            rw [ez1, ez2] at hret
            exact hret (k5 + 1) (n5 + nl [c5]) tt5 tk6 tn6 _ _ hdr5 (by omega) (by rw [hdr5]; omega) F5 (itNews_lex N5)
  · refine next_ended rfl (N1 (it9, citEnd) (.tail _ (.tail _ (.tail _ (.tail _ (.tail _ (.tail _ (.tail _ (.tail _ (.tail _ (.tail _ (.tail _ (.head _))))))))))))).1 ?_
    intro h' hk2
    have F2 := fr_keepAll F1 hk2
    have N2 := news_keepAll N1 hk2
    dsimp only
    k_steps
    rename Fr h₀ _ _ _ => F5
    rename News h₀ _ _ _ => N5
    have hz := hret k' n' tt tk2 tn2 h' tk₁ (by rw [hdr, ← hacc]) hk' hn' F5 (itNews_lex N5)
    rw [← hacc] at hz
    exact hz
end Mine
end
-- E_stream
section
open PySem PySem.W PyProof.Rows PySem.Spec PySem.Calls
set_option Elab.async false
set_option maxRecDepth 100000
set_option maxHeartbeats 16000000
namespace Mine

noncomputable def aDef (l : List Stmt) : Option (Arguments × List Stmt × Scope) := match l with
  | .FunctionDef _ a b _ _ _ sc _ _ _ :: _ => some (a, b, sc)
  | _ => none
/-- the def within _law_stream -/
noncomputable def rdDef : Option (Arguments × List Stmt × Scope) := (aDef (PG.main.body.drop 26)).bind fun x => aDef (x.2.1.drop 1)
theorem reads_of {w : World} {T : List Nat} (hTl : (S T).length < 200) {x dx pb f c pl c2 c1 : Nat} {k : Nat → Tok} {oc o2 o1 : Obj} {dc ct pm : Value} {qn : Str} {tx t : Tok} {vs : Array Value} {bs : Heap} {ps : Arguments} {b : List Stmt} {sc : Scope} (hS : rdDef = some (ps, b, sc)) (kC : CodeHd bs 352 348)
  (h1 : o1.data = .cell (some (.str (S T) tx))) (h2 : o2.data = .cell (some (.ref pl))) (hd1 : oc.data = .fields vs) (hd2 : vs[1]? = some (.str qn t)) :
  Reads w
    { x := x, dx := dx, pb := pb, f := f, c := c, pl := pl, c2 := c2, c1 := c1, k := k,
      fcl := Value.type "function", fod := none,
      fd :=
        { name := Str.ofString "read",
          qualname := qn,
          params := ps, body := FuncBody.stmts b, scope := sc,
          globals := mainGlobals, closure := [(Str.ofString "text", c1), (Str.ofString "place", c2)],
          defaults := Value.none, kwdefaults := Value.none, doc := dc,
          pyModule := pm, code := Value.ref c, closureTuple := ct,
          builtins := builtinsNs },
      fsl := { toList := [] }, oc := oc, o2 := o2, o1 := o1 } T := by
  cases hS
  unfold Reads PG
  k_fill
  k_with_none
  intro p loose mean mg mb news k tk ts cn nm mr a ccd cl outer A₀ base h₀ L m s Q E B F K N TT hO hne hk hret
  dsimp only [Strm.Ord] at hO hne N hret ⊢
  have hrl : (rd T k).length ≤ 1 := by simp [rd]; omega
  k_steps
  rename Fr h₀ _ _ _ => F2
  rename News h₀ _ _ _ => N2
  have hs : Txt.slice (S T) (some (k : Int)) (some ((k : Int) + 1)) = S (rd T k) := by
    rw [show ((k : Int) + 1) = ((k + 1 : Nat) : Int) from by omega, slice_S _ (by omega)]
    unfold rd; congr 2; omega
  have he : ([(k : Int)].getD (Int.toNat 0) 0) = (k : Int) := rfl
  rw [he, hs, S_len] at N2
  rw [he, hs]
  rw [show (k : Int) + ((rd T k).length : Int) = ((k + (rd T k).length : Nat) : Int) from by omega] at N2
  exact hret _ _ _ _ F2 N2

theorem c_streamA {w : World} {p : Program} {loose : List Str} {mean : ExcName → Option Value} {mg mb : Str → Option Value} {news : List (Addr × Obj)} (tx : Tok) (T : List Nat) (hT : T.length < 200) :
  ∀ (cn : Str) (nm : List (Str × NameKind)) (mr : List (Str × Const)) (a : Addr) (ccd : Value) (cl : List (Str × Addr)) (outer : List Env) (A₀ : Around) (base h₀ : Heap) (L : Addr) (m : Str → Option Value) (s : Shared) (Q E : Value → Shared → Prop),
    Below A₀ base outer h₀ → Fr h₀ L s.heap m → (hd.heap_1 w.params).In h₀ → News h₀ L s.heap ((348, tabObj #[]) :: news) → Top p loose mean mg mb h₀ → CodeHd base 352 348 → (∀ p ∈ news, p.1 ≠ 348) →
    (StreamRet w T h₀ L m news s Q) →
      wpAny (model PySem.Challenge.rw_wu0094_01.row.prog w) (ktrTop 700 4000 (some []) cn (fsc nm mr) L a ccd cl outer) (call (.ref 353) [.str (S T) tx]) Q E s := by
  k_fill
  k_with_none
  have hTl : (S T).length < 200 := by rw [S_len]; exact hT
  intro cn nm mr a ccd cl outer A₀ base h₀ L m s Q E B F K N TT C h348 hret
  obtain ⟨hpz, gz, dz, tz, oz⟩ := s
  dsimp only at F N hret
  (k_with "execs cons" => ((rename Fr _ _ _ _ => FZ); refine gtkF FZ gz dz oz rfl ?_; intro tkF))
  k_steps
  rename News h₀ _ _ _ => kN
  rename Fr h₀ _ _ _ => kF
  rename CodeHd _ _ _ => kC
  simp only [StreamRet, StreamNews] at hret
  refine hret ⟨_, _, _, _, _, _, _, _, fun i => match i with | 0 => _ | 1 => _ | 2 => _ | 3 => _ | 4 => _ | 5 => _ | _ => _, _, _, _, _, _, _, _⟩ _ _ _ _ ?o1 ?o2 ?o3 ?o4 ?rd kF kN ?c
  case o1 => dsimp only [Strm.Ord]; omega
  case o2 => dsimp only; omega
  case o3 => exact allLt_all1 (by assumption) (by dsimp only; omega)
  case o4 => dsimp only; omega
  case c => exact ⟨_, _, by assumption, by assumption⟩
  case rd =>
    exact reads_of hTl (tx := tx) rfl kC (by assumption) (by assumption) (by assumption) (by assumption)

theorem News_swap {h₀ h : Heap} {L : Addr} {a1 a2 a3 a4 a5 b1 b2 b3 t c : Addr × Obj} {news : List (Addr × Obj)} (N : News h₀ L h (a1 :: a2 :: a3 :: a4 :: a5 :: b1 :: b2 :: b3 :: t :: c :: news)) : News h₀ L h (a1 :: a2 :: a3 :: a4 :: a5 :: c :: b1 :: b2 :: b3 :: t :: news) :=
  news_sub N (List.forall_mem_cons.mpr ⟨.head _, List.forall_mem_cons.mpr ⟨.tail _ (.head _), List.forall_mem_cons.mpr ⟨.tail _ (.tail _ (.head _)), List.forall_mem_cons.mpr ⟨.tail _ (.tail _ (.tail _ (.head _))), List.forall_mem_cons.mpr ⟨.tail _ (.tail _ (.tail _ (.tail _ (.head _)))), List.forall_mem_cons.mpr ⟨.tail _ (.tail _ (.tail _ (.tail _ (.tail _ (.tail _ (.tail _ (.tail _ (.tail _ (.head _))))))))), List.forall_mem_cons.mpr ⟨.tail _ (.tail _ (.tail _ (.tail _ (.tail _ (.head _))))), List.forall_mem_cons.mpr ⟨.tail _ (.tail _ (.tail _ (.tail _ (.tail _ (.tail _ (.head _)))))), List.forall_mem_cons.mpr ⟨.tail _ (.tail _ (.tail _ (.tail _ (.tail _ (.tail _ (.tail _ (.head _))))))), List.forall_mem_cons.mpr ⟨.tail _ (.tail _ (.tail _ (.tail _ (.tail _ (.tail _ (.tail _ (.tail _ (.head _)))))))), fun _ h => .tail _ (.tail _ (.tail _ (.tail _ (.tail _ (.tail _ (.tail _ (.tail _ (.tail _ (.tail _ (h))))))))))⟩⟩⟩⟩⟩⟩⟩⟩⟩⟩)

theorem c_streamB {w : World} {p : Program} {loose : List Str} {mean : ExcName → Option Value} {mg mb : Str → Option Value} {news : List (Addr × Obj)} (tx : Tok) (T : List Nat) (hT : T.length < 200) {c₀ : Nat} {oc₀ : Obj} {vs₀ : Array Value} {t₀ : Tok} :
  ∀ (cn : Str) (nm : List (Str × NameKind)) (mr : List (Str × Const)) (a : Addr) (ccd : Value) (cl : List (Str × Addr)) (outer : List Env) (A₀ : Around) (base h₀ : Heap) (L : Addr) (m : Str → Option Value) (s : Shared) (Q E : Value → Shared → Prop),
    Below A₀ base outer h₀ → Fr h₀ L s.heap m → (hd.heap_1 w.params).In h₀ → News h₀ L s.heap ((348, tabObj #[rawInt 288, rawInt 4, .ref c₀]) :: (c₀, oc₀) :: news) → Top p loose mean mg mb h₀ → CodeHd base 352 348 → (∀ p ∈ news, p.1 ≠ 348) → c₀ ≠ 348 → oc₀.data = .fields vs₀ → vs₀[1]? = some (.str "_law_stream.<locals>.read" t₀) →
    (StreamRet w T h₀ L m news s Q) →
      wpAny (model PySem.Challenge.rw_wu0094_01.row.prog w) (ktrTop 700 4000 (some []) cn (fsc nm mr) L a ccd cl outer) (call (.ref 353) [.str (S T) tx]) Q E s := by
  k_fill
  k_with_none
  have hTl : (S T).length < 200 := by rw [S_len]; exact hT
  intro cn nm mr a ccd cl outer A₀ base h₀ L m s Q E B F K N TT C h348 hc0 hd₀ hv₀ hret
  obtain ⟨hpz, gz, dz, tz, oz⟩ := s
  dsimp only at F N hret
  (k_with "execs cons" => ((rename Fr _ _ _ _ => FZ); refine gtkF FZ gz dz oz rfl ?_; intro tkF))
  k_steps
  rename News h₀ _ _ _ => kN
  rename Fr h₀ _ _ _ => kF
  rename CodeHd _ _ _ => kC
  simp only [StreamRet, StreamNews] at hret
  refine hret ⟨_, _, _, _, _, _, _, _, fun i => match i with | 0 => _ | 1 => _ | 2 => _ | 3 => _ | 4 => _ | 5 => _ | _ => _, _, _, _, _, _, _, _⟩ _ _ _ _ ?o1 ?o2 ?o3 ?o4 ?rd kF (News_swap kN) ?c
  case o1 => dsimp only [Strm.Ord]; omega
  case o2 => dsimp only; omega
  case o3 => exact allLt_all2 (by assumption) (by dsimp only; omega)
  case o4 => dsimp only; omega
  case c => exact ⟨_, _, hd₀, hv₀⟩
  case rd =>
    exact reads_of hTl (tx := tx) rfl kC (by assumption) (by assumption) (by assumption) (by assumption)

theorem c_stream {w : World} {p : Program} {loose : List Str} {mean : ExcName → Option Value} {mg mb : Str → Option Value} {news : List (Addr × Obj)} (tx : Tok) (T : List Nat) (hT : T.length < 200) {tb : Obj} :
  ∀ (cn : Str) (nm : List (Str × NameKind)) (mr : List (Str × Const)) (a : Addr) (ccd : Value) (cl : List (Str × Addr)) (outer : List Env) (A₀ : Around) (base h₀ : Heap) (L : Addr) (m : Str → Option Value) (s : Shared) (Q E : Value → Shared → Prop),
    Below A₀ base outer h₀ → Fr h₀ L s.heap m → (hd.heap_1 w.params).In h₀ → News h₀ L s.heap ((348, tb) :: news) → Top p loose mean mg mb h₀ → CodeHd base 352 348 → (∀ p ∈ news, p.1 ≠ 348) → TabOk tb news →
    (StreamRet w T h₀ L m news s Q) →
      wpAny (model PySem.Challenge.rw_wu0094_01.row.prog w) (ktrTop 700 4000 (some []) cn (fsc nm mr) L a ccd cl outer) (call (.ref 353) [.str (S T) tx]) Q E s := by
  intro cn nm mr a ccd cl outer A₀ base h₀ L m s Q E B F K N TT C h348 hT2 hret
  rcases hT2 with rfl | ⟨c, oc, vs, t, rfl, hm, hd1, hv⟩
  · exact c_streamA tx T hT cn nm mr a ccd cl outer A₀ base h₀ L m s Q E B F K N TT C h348 hret
  · refine c_streamB (c₀ := c) (oc₀ := oc) tx T hT cn nm mr a ccd cl outer A₀ base h₀ L m s Q E B F K ?_ TT C h348 (h348 _ hm) hd1 hv hret
    refine news_sub N fun p hp => ?_
    simp only [List.mem_cons] at hp ⊢
    rcases hp with rfl | rfl | hp
    · exact .inl rfl
    · exact .inr hm
    · exact .inr hp
end Mine
end
-- LX
section
open PySem PySem.W PyProof.Rows PySem.Calls
set_option Elab.async false
set_option maxRecDepth 100000
namespace Mine
/-- values that are texts -/
inductive StrsA : List Value → List (List Nat) → Prop
  | nil : StrsA [] []
  | cons {x : List Nat} {t : Tok} {vs : List Value} {xs : List (List Nat)} : StrsA vs xs → StrsA (.str (S x) t :: vs) (x :: xs)
theorem StrsA.snoc {vs : List Value} {xs : List (List Nat)} (h : StrsA vs xs) (x : List Nat) (t : Tok) : StrsA (vs ++ [.str (S x) t]) (xs ++ [x]) := by
  induction h with
  | nil => exact .cons .nil
  | cons _ ih => exact .cons ih
theorem StrsA.len {vs : List Value} {xs : List (List Nat)} (h : StrsA vs xs) : vs.length = xs.length := by
  induction h with
  | nil => rfl
  | cons _ ih => simp [ih]
theorem StrsA.sa {vs : List Value} {xs : List (List Nat)} (h : StrsA vs xs) : StrsAre vs (xs.map S) := by
  induction h with
  | nil => exact .nil
  | cons _ ih => exact .cons _ _ ih
theorem tok_lt : ∀ (l : List Nat), l ≠ [] → (tok l).2.length < l.length := by
  intro l
  fun_induction tok l with
  | case1 => intro h; exact absurd rfl h
  | case2 => intro _; simp
  | case3 d r => intro _; have := (plain_le [d] r).1; simp; omega
  | case4 c r h1 h2 hw ih =>
    intro _
    by_cases hr : r = []
    · subst hr; simp [tok]
    · have := ih hr; simp; omega
  | case5 r h1 h2 hw => intro _; have := (quoted_le [] r).1; simp; omega
  | case6 c r h1 h2 hw hq => intro _; have := (plain_le [c] r).1; simp; omega
noncomputable def toksF : Nat → List Nat → List (List Nat)
  | 0, _ => []
  | n + 1, l => if l = [] then [] else (tok l).1 :: toksF n (tok l).2
noncomputable def toks (l : List Nat) : List (List Nat) := toksF l.length l
theorem toksF_enough : ∀ (n m : Nat) (l : List Nat), l.length ≤ n → l.length ≤ m → toksF n l = toksF m l
  | 0, 0, _, _, _ => rfl
  | 0, m + 1, l, h, _ => by
    have : l = [] := List.eq_nil_of_length_eq_zero (Nat.le_zero.mp h)
    subst this; simp [toksF]
  | n + 1, 0, l, _, h => by
    have : l = [] := List.eq_nil_of_length_eq_zero (Nat.le_zero.mp h)
    subst this; simp [toksF]
  | n + 1, m + 1, l, h1, h2 => by
    by_cases e : l = []
    · simp [toksF, e]
    · have hl := tok_lt l e
      simp only [toksF, if_neg e]
      rw [toksF_enough n m (tok l).2 (by omega) (by omega)]
theorem toks_nil : toks [] = [] := rfl
theorem toks_ne {l : List Nat} (h : l ≠ []) : toks l = (tok l).1 :: toks (tok l).2 := by
  have hl := tok_lt l h
  unfold toks
  obtain ⟨n, e⟩ : ∃ n, l.length = n + 1 := ⟨l.length - 1, by omega⟩
  rw [e, toksF, if_neg h, toksF_enough n (tok l).2.length (tok l).2 (by omega) (Nat.le_refl _)]
theorem lex_of {w : World} {σ : Strm} {lx dl lp n : Nat} {a0 D : Addr × Obj} {t0 t1 t2 t3 t4 tn tk : Tok} {h₀ h : Heap} {L : Addr} {news : List (Addr × Obj)}
    (N : News h₀ L h (a0 :: (lp, listOf #[] 0) :: (lx, instObj 274 dl) :: (dl, dictOf [dE w "lineno" t0 (.int n tn), dE w "instream" t1 (.ref σ.x), dE w "whitespace" t2 (.str "\n\t\x0d " t3), dE w "pushback" t4 (.ref lp)] 4) :: D :: (σ.pb, listOf #[] 0) :: (σ.x, instObj 274 σ.dx) :: (σ.dx, dictOf [dE w "lineno" (σ.k 0) (.int 1 (σ.k 1)), dE w "instream" (σ.k 2) .none, dE w "whitespace" (σ.k 3) (.str "\n\t\x0d " (σ.k 4)), dE w "pushback" (σ.k 5) (.ref σ.pb), dE w "read" (σ.k 6) (.ref σ.f)] 5) :: (σ.f, ⟨σ.fcl, σ.fod, .func σ.fd, σ.fsl⟩) :: (σ.c, σ.oc) :: (σ.pl, listOf #[.int 0 tk] 0) :: (σ.c2, σ.o2) :: (σ.c1, σ.o1) :: news)) :
    ∃ l : Lex, l.lx = lx ∧ l.dl = dl ∧ l.lp = lp ∧ News h₀ L h (a0 :: LexNews w l σ 0 n tk tn news) :=
  ⟨⟨lx, dl, lp, fun i => match i with | 0 => t0 | 1 => t1 | 2 => t2 | 3 => t3 | _ => t4⟩, rfl, rfl, rfl, news_sub N (List.forall_mem_cons.mpr ⟨.head _, List.forall_mem_cons.mpr ⟨.tail _ (.tail _ (.tail _ (.tail _ (.tail _ (.tail _ (.tail _ (.tail _ (.tail _ (.tail _ (.head _)))))))))), List.forall_mem_cons.mpr ⟨.tail _ (.tail _ (.tail _ (.tail _ (.tail _ (.tail _ (.tail _ (.tail _ (.head _)))))))), List.forall_mem_cons.mpr ⟨.tail _ (.tail _ (.tail _ (.tail _ (.tail _ (.tail _ (.tail _ (.tail _ (.tail _ (.head _))))))))), List.forall_mem_cons.mpr ⟨.tail _ (.tail _ (.tail _ (.tail _ (.tail _ (.tail _ (.tail _ (.tail _ (.tail _ (.tail _ (.tail _ (.head _))))))))))), List.forall_mem_cons.mpr ⟨.tail _ (.tail _ (.tail _ (.tail _ (.tail _ (.tail _ (.tail _ (.tail _ (.tail _ (.tail _ (.tail _ (.tail _ (.head _)))))))))))), List.forall_mem_cons.mpr ⟨.tail _ (.tail _ (.tail _ (.head _))), List.forall_mem_cons.mpr ⟨.tail _ (.tail _ (.head _)), List.forall_mem_cons.mpr ⟨.tail _ (.head _), List.forall_mem_cons.mpr ⟨.tail _ (.tail _ (.tail _ (.tail _ (.tail _ (.head _))))), List.forall_mem_cons.mpr ⟨.tail _ (.tail _ (.tail _ (.tail _ (.tail _ (.tail _ (.head _)))))), List.forall_mem_cons.mpr ⟨.tail _ (.tail _ (.tail _ (.tail _ (.tail _ (.tail _ (.tail _ (.head _))))))), fun _ h => .tail _ (.tail _ (.tail _ (.tail _ (.tail _ (.tail _ (.tail _ (.tail _ (.tail _ (.tail _ (.tail _ (.tail _ (.tail _ (h)))))))))))))⟩⟩⟩⟩⟩⟩⟩⟩⟩⟩⟩⟩)⟩
end Mine
end
-- CP
section
open PySem PySem.W PyProof.Rows PySem.Spec PySem.Calls
set_option Elab.async false
set_option maxRecDepth 100000
namespace Mine
theorem strsA_of {ys : List Value} {xs : List (List Nat)} (h : CarriedAll ys ((xs.map S).map PyData.str)) : StrsA ys xs := by
  induction xs generalizing ys with
  | nil => cases h; exact .nil
  | cons x xs ih =>
    cases h with
    | cons h1 h2 => cases h1; exact .cons (ih h2)
theorem map_filter_S (p : Str → Bool) (xs : List (List Nat)) : (xs.map S).filter p = (xs.filter (fun x => p (S x))).map S := by
  rw [List.filter_map]; rfl
theorem _root_.Mine.TabOk.tail {tb : Obj} {news : List (Addr × Obj)} {q : Addr × Obj} (h : TabOk tb news) : TabOk tb (q :: news) := by
  rcases h with h | ⟨c, oc, vs, t, h1, h2, h3⟩
  · exact .inl h
  · exact .inr ⟨c, oc, vs, t, h1, .tail _ h2, h3⟩
/-- what the two cutters by netrc hand on -/
noncomputable abbrev cutTail (tp D cr c : Nat) (oc : Obj) (n : Nat) (tn : Tok) (ys : List Value) (news : List (Addr × Obj)) : List (Addr × Obj) :=
  (tp, { cls := .type "tuple", data := .seq #[.int n tn, .ref D] }) :: (D, listOf ys.toArray c) :: (cr, oc) :: news
noncomputable def CutRet (h₀ : Heap) (L : Addr) (m : Str → Option Value) (news : List (Addr × Obj)) (s : Shared) (Q : Value → Shared → Prop) (n : Nat) (ws : List (List Nat)) : Prop :=
  ∀ (tp D cr c : Nat) (oc tb' : Obj) (tn : Tok) (ys : List Value) (h' : Heap) (tk' : Nat), StrsA ys ws → TabOk tb' (cutTail tp D cr c oc n tn ys news) → (∀ p ∈ cutTail tp D cr c oc n tn ys news, p.1 ≠ 348) →
    Fr h₀ L h' m → News h₀ L h' ((348, tb') :: cutTail tp D cr c oc n tn ys news) → Q (.ref tp) { s with heap := h', toks := tk' }
theorem gtkS {M : Model} {A : Around} {α : Type} {c : Sem α} {Q : α → Shared → Prop} {E : Value → Shared → Prop} {hp : Heap} {g : _} {d : _} {o : _} {a b : Nat} (hb : b ≠ 0) (h : ∀ tk, tk ≠ 0 → wpAny M A c Q E ⟨hp, g, d, tk, o⟩) : wpAny M A c Q E ⟨hp, g, d, a + b, o⟩ := h _ (by omega)
section
variable {prog : Program} {w : World} {A : Around} {E : Value → Shared → Prop} {s₁ : Shared} {h₀ : Heap} {L : Addr} {m : Str → Option Value} {news : List (Addr × Obj)}
theorem strsA_of_are {vs : List Value} : ∀ {xs : List (List Nat)}, StrsAre vs (xs.map S) → StrsA vs xs := by
  induction vs with
  | nil => intro xs h; cases xs with
    | nil => exact .nil
    | cons _ _ => cases h
  | cons v vs ih => intro xs h; cases xs with
    | nil => cases h
    | cons x xs =>
      simp only [List.map_cons] at h
      cases h with
      | cons y t h => exact .cons (ih h)
theorem split_txt {x : List Nat} {c : Nat} {t u : Tok} {y : Str} {Q : Value → Shared → Prop} (hy : y = S [c]) (hx : x.length ≤ 10000) (F : Fr h₀ L s₁.heap m) (N : News h₀ L s₁.heap news)
    (h : ∀ (D : Nat) (vs : List Value) h' k, Fr h₀ L h' m → News h₀ L h' ((D, listOf vs.toArray 0) :: news) → (∀ p ∈ news, p.1 < D) → StrsA vs (spl c x) → Q (.ref D) { s₁ with heap := h', toks := k }) :
    wpAny (model prog w) A (call (.builtin "str.split") [.str (S x) t, .str y u]) Q E s₁ := by
  subst hy
  refine splitN1A F N (by rfl) ?_ (by rw [S_len]; exact Nat.le_trans (Nat.add_le_add_right hx 2) (by decide))
  intro l h' k e hs _ _ F' N'
  rw [e, split_S] at hs
  exact h _ _ h' k F' N' (fun p hp => Heap.lt_size (N p hp).1) (strsA_of_are hs)
theorem repl_txt {x : List Nat} (c : Nat) (z' : List Nat) {t u v : Tok} {y z : Str} {Q : Value → Shared → Prop} (hy : y = S [c]) (hz : z = S z') (hu : u ≠ 0) (hv : v ≠ 0) (huv : u ≠ v) (hne : [c] ≠ z') (hx : x.length ≤ 1000000) (hzl : z'.length ≤ 14)
    (h : ∀ t' k, Q (.str (S (rep c z' x)) t') { s₁ with toks := k }) :
    wpAny (model prog w) A (call (.builtin "str.replace") [.str (S x) t, .str y u, .str z v]) Q E s₁ := by
  subst hy hz
  refine SC.replaceW hu hv huv ?_ (by rw [S_len]; omega) (by rw [S_len]; exact hzl) ?_
  · rw [S_beq]; simpa using hne
  · rw [replace_S]; exact h
theorem comp_strs {env : Env} {elt : Expr} {x : Str} {ifs : List Expr} {scope : Scope} {Q : Value → Shared → Prop} {l : Addr} {vs : List Value} {xs : List (List Nat)} {pz : Str → Bool}
    (hh : A.handled = none) (hv : StrsA vs xs) (hsz : xs.length ≤ 10000) (hl : s₁.heap.IsList l vs.toArray) (F : Fr h₀ L s₁.heap m) (N : News h₀ L s₁.heap news)
    (g1 : ∀ C a v s₂ m₂ E', ItemKind.str.is a v → a ∈ xs.map S → s₂.heap.Ns (compEnv scope C env).locals m₂ → m₂ x = some v → s₁.toks ≤ s₂.toks →
        wpAny (model prog w) A (forIn ifs true fun c r => if r = true then do let ok ← isTrue c (compEnv scope C env) (eval c (compEnv scope C env)); pure (ForInStep.yield ok) else pure (ForInStep.yield r))
          (fun ok s₃ => ok = pz a ∧ Keeps s₂ s₃) E' s₂)
    (g2 : ∀ C a v s₂ m₂ E', ItemKind.str.is a v → a ∈ xs.map S → pz a = true → s₂.heap.Ns (compEnv scope C env).locals m₂ → m₂ x = some v → s₁.toks ≤ s₂.toks → wpAny (model prog w) A (eval elt (compEnv scope C env)) (fun r s₃ => Carried r (PyData.str a) ∧ Keeps s₂ s₃) E' s₂)
    (g3 : ∀ (D : Nat) (ys : List Value) (c : Nat) h' tk, Fr h₀ L h' m → News h₀ L h' ((D, listOf ys.toArray c) :: news) → (∀ p ∈ news, p.1 ≠ D) → StrsA ys (xs.filter (fun x => pz (S x))) → Q (.ref D) { s₁ with heap := h', toks := tk }) :
    wpAny (model prog w) A (pyIter (.ref l)) (CompPost prog w A env scope x ifs elt Q) E s₁ := by
  refine srcC_listDW (K := .str) (as := xs.map S) (pz := pz) (d := PyData.str) hh hl hv.sa.areOf F N (fun C a v s₂ m₂ E' h1 h2 => g1 C a v s₂ m₂ E' h2 h1) (fun C a v s₂ m₂ E' h1 h2 => g2 C a v s₂ m₂ E' h2 h1) ?_ (by rw [List.length_map]; exact Nat.le_trans hsz (by decide))
  intro D ys h' tk F' N' hD _ hP hC
  obtain ⟨⟨c, e⟩, hne⟩ := id hP
  rw [map_filter_S] at hC
  refine g3 D ys c h' tk F' ?_ hne (strsA_of hC)
  intro p hp
  rcases List.mem_cons.mp hp with rfl | hp
  · exact ⟨e, hP.ne_locals F', hD⟩
  · exact N' p hp
/-- what an if leaves that writes one name anew, or not -/
noncomputable def Joined (h₀ : Heap) (L : Addr) (x' : List Nat) (news : List (Addr × Obj)) (s : Shared) (f : Flow) (s' : Shared) : Prop :=
  f = .next ∧ ∃ (h' : Heap) (tk : Nat) (t' : Tok) (m' : Str → Option Value), s' = { s with heap := h', toks := tk } ∧ m' "text" = some (.str (S x') t') ∧ Fr h₀ L h' m' ∧ News h₀ L h' news
theorem If_join {test : Expr} {body : List Stmt} {pos : Pos} {env : Env} {x' : List Nat} {Q : Flow → Shared → Prop} (_F : Fr h₀ L s₁.heap m) (_N : News h₀ L s₁.heap news) (h0 : s₁.toks ≠ 0)
    (h1 : wpAny (model prog w) A (exec (.If test body [] pos) env) (Joined h₀ L x' news s₁) E s₁)
    (h2 : ∀ (h' : Heap) (tk : Nat) (t' : Tok) (m' : Str → Option Value), tk ≠ 0 → m' "text" = some (.str (S x') t') → Fr h₀ L h' m' → News h₀ L h' news → Q .next { s₁ with heap := h', toks := tk }) :
    wpAny (model prog w) A (exec (.If test body [] pos) env) Q E s₁ := by
  refine wpAny_toks (wpAny_mono h1 (fun f s' hf ht => ?_) fun _ _ e _ => e)
  obtain ⟨rfl, h', tk, t', m', rfl, e, F', N'⟩ := hf
  have ht' : s₁.toks ≤ tk := ht
  exact h2 h' tk t' m' (by omega) e F' N'
theorem rep_no {c : Nat} {z x : List Nat} (h : c ∉ x) : rep c z x = x := by
  unfold rep
  induction x with
  | nil => rfl
  | cons a r ih =>
    rw [List.flatMap_cons, ih (fun e => h (.tail _ e)), if_neg (fun (e : a = c) => h (by rw [e]; exact .head _))]
    rfl
theorem rep_len (c : Nat) (z x : List Nat) (hz : z.length ≤ 6) : (rep c z x).length ≤ 6 * x.length := by
  unfold rep
  induction x with
  | nil => simp
  | cons a r ih =>
    rw [List.flatMap_cons, List.length_append, List.length_cons]; split
    · omega
    · rw [List.length_singleton]; omega
theorem Joined.write {x' : List Nat} {h' : Heap} {m' : Str → Option Value} {t' : Tok} {tk : Nat} (F : Fr h₀ L h' m') (N : News h₀ L h' news) (e : m' "text" = some (.str (S x') t')) : Joined h₀ L x' news s₁ .next { s₁ with heap := h', toks := tk } :=
  ⟨rfl, _, _, _, _, rfl, e, F, N⟩
theorem Joined.keep {x : List Nat} {c : Nat} {z : List Nat} {h' : Heap} {m' : Str → Option Value} {t' : Tok} {tk : Nat} (hc : c ∉ x) (F : Fr h₀ L h' m') (N : News h₀ L h' news) (e : m' "text" = some (.str (S x) t')) : Joined h₀ L (rep c z x) news s₁ .next { s₁ with heap := h', toks := tk } :=
  .write F N (by rw [rep_no hc]; exact e)
end
end Mine
end
-- EN
section
open PySem PySem.W PyProof.Rows PySem.Spec PySem.Calls
set_option Elab.async false
set_option maxRecDepth 100000
namespace Mine
section
variable {prog : Program} {w : World} {A A₀ : Around} {E : Value → Shared → Prop} {s : Shared} {K : Frag} {L : Addr} {h₀ base : Heap} {m mg mb : Str → Option Value} {news : List (Addr × Obj)} {p : Program} {loose : List Str} {mean : ExcName → Option Value} {Q : Value → Shared → Prop}
/-- a call of a function with cells: the tokens in its body are no fewer than at the call -/
theorem enter_toks {env : Env} {outer : List Env} {R : Result → Shared → Prop} {name qual : Str} {params : Arguments} {body : List Stmt} {scope : Scope} {dV kV doc pm cdv ct oc : Value} {an od : Option Addr} {osl : Array (Option Value)} {f : Addr} {args : Args} {binds : List (Str × Value)}
    (B : Below A₀ base outer h₀) (F : Fr h₀ L s.heap m) (X₀ : K.In h₀) (N : News h₀ L s.heap news) (T : Top p loose mean mg mb h₀) (hA : A.frames = some (env :: outer)) (hf : env.frame = some L) (hke : env.scope.kind = .function)
    (ho : K.lookup f = some ⟨oc, od, .func (fnOf name qual params body scope dV kV doc pm an cdv ct), osl⟩) (hcd : codeIn K cdv qual = true) (hroom : A.depth < recursionLimit)
    (hbind : BindsTo s (fnOf name qual params body scope dV kV doc pm an cdv ct) args binds) (hkind : (binds.all fun y => scope.names.lookup y.1 == some .local || scope.names.lookup y.1 == some .cell) = true)
    (hnd : ((cellsFrom 0 scope.names []).map (·.1)).Nodup)
    (h : ∀ g L' h₁ tk cells, s.toks ≤ tk → Fr h₀ L g m → Fr g L' h₁ (bindL (envOfC qual scope L' f cdv).kindOf binds fun _ => none) → News g L' h₁ (cells ++ news) →
      CellsAre (bindC (envOfC qual scope L' f cdv).kindOf binds fun _ => none) (cellsFrom (L' + 1) scope.names []) cells → Below A base (env :: outer) g → K.In g → Top p loose mean mg mb g → (∀ p ∈ news, p.1 < L') →
      wpAny (model prog w) (A.deeper (envOfC qual scope L' f cdv)) (execs body (envOfC qual scope L' f cdv))
        (fun fl s' => LeaveK h₀ L m g R (match fl with | .ret v => v | _ => .none) s')
        (fun e s' => wpAny (model prog w) (A.deeper (envOfC qual scope L' f cdv)) (leaving (envOfC qual scope L' f cdv) e) (fun _ s'' => R (.error e) s'') (fun e' s'' => R (.error e') s'') s')
        { s with heap := h₁, toks := tk })
    (hco : scope.isCoroutine = false) (hgen : scope.isGenerator = false) (hk : scope.kind = .function) : codeAny (model prog w) A (.call (.ref f) args) R s := by
  have hK := X₀.keeps F.keep
  obtain ⟨FG, BG, st, lv⟩ := groundX (R := R) B F N hA hf hke
  refine codeAny_call_function hroom (hK _ _ ho) rfl hco hgen rfl (codeRec_of hK hcd) (hbind _ _ _ _ (wpAny_toks (wpAny_newFunctionEnv_cells hk (kindsX hkind _) fun env' he s' x ht => ?_)))
  subst he
  refine ⟨(T.nolimit.keeps F.keep).keeps x.toInCall.keep, codeAny_func ?_⟩
  have hk₁ := x.toInCall.keep
  obtain ⟨cells, NC, Y⟩ := Cl.news (h₀ := s.heap) (Nat.le_refl _) fun n c hm => ⟨x.cell n c (lookup_of_mem_nodup (cellsFrom_names scope.names 0 (s.heap.objs.size + 1) [] [] rfl ▸ hnd) hm), x.above n c hm⟩
  obtain ⟨h₁, tk, rfl, _⟩ := x.done
  have FN : Fr (hideAll s.heap (news.map (·.1))) s.heap.objs.size h₁ _ := ⟨x.toInCall.ns, fun b o e => hk₁ b o (of_hideAll _ e), Nat.le_of_eq (hideAll_size _ _)⟩
  have NN : News (hideAll s.heap (news.map (·.1))) s.heap.objs.size h₁ (cells ++ news) := by
    intro q hq
    rcases List.mem_append.mp hq with hq | hq
    · refine ⟨(NC q hq).1, (NC q hq).2.1, ?_⟩
      cases e : (hideAll s.heap (news.map (·.1))).get? q.1 with
      | none => rfl
      | some o => have e2 := of_hideAll _ e; rw [(NC q hq).2.2] at e2; cases e2
    · exact ⟨hk₁ _ _ (N q hq).1, Nat.ne_of_lt (Heap.lt_size (N q hq).1), hideAll_none _ (List.mem_map_of_mem hq)⟩
  exact wpAny_mono (h _ s.heap.objs.size h₁ tk cells ht FG FN NN Y BG (X₀.keeps st) (T.keeps st) fun q hq => Heap.lt_size (N q hq).1) (fun fl s' hl => lv _ _ hl) fun _ _ y => y
end
end Mine
end
-- CX
section
open PySem PySem.W PyProof.Rows PySem.Spec PySem.Calls
set_option Elab.async false
set_option maxRecDepth 100000
namespace Mine
section
variable {prog : Program} {w : World} {A : Around} {E : Value → Shared → Prop} {s₂ : Shared} {h₀ : Heap} {L : Addr} {m : Str → Option Value} {news : List (Addr × Obj)}
theorem ns_obj {h : Heap} {a : Addr} {m : Str → Option Value} (hn : h.Ns a m) : ∃ o, h.get? a = some o ∧ ∀ h' : Heap, h'.get? a = some o → h'.Ns a m := by
  obtain ⟨o, es, ep, e, r⟩ := hn
  exact ⟨o, e, fun h' e' => ⟨o, es, ep, e', r⟩⟩
theorem news_lt {h : Heap} (N : News h₀ L h news) : ∀ p ∈ news, p.1 < h.objs.size := fun p hp => Heap.lt_size (N p hp).1
theorem lexNews_lt {w : World} {l : Lex} {σ : Strm} {k n k' n' : Nat} {tk tn tk' tn' : Tok} {I : Nat} (h : ∀ p ∈ LexNews w l σ k n tk tn news, p.1 < I) : ∀ p ∈ LexNews w l σ k' n' tk' tn' news, p.1 < I := by
  intro p hp
  have e : (LexNews w l σ k n tk tn news).map (·.1) = (LexNews w l σ k' n' tk' tn' news).map (·.1) := by simp [LexNews]
  have hm : p.1 ∈ (LexNews w l σ k n tk tn news).map (·.1) := by rw [e]; exact List.mem_map_of_mem hp
  obtain ⟨q, hq, hqp⟩ := List.mem_map.mp hm
  rw [← hqp]
  exact h q hq
theorem rangeSize_to (n : Nat) : Builtin.Range.rangeSize 0 (n : Int) 1 = (n : Int) := by
  unfold Builtin.Range.rangeSize
  simp only [show (1 : Int) > 0 from by decide, if_true]
  by_cases h : (0 : Int) < (n : Int)
  · rw [if_pos h, Int.ediv_one]; omega
  · rw [if_neg h]; omega
theorem pyIter_to {prog : Program} {w : World} {A : Around} {E : Value → Shared → Prop} {s : Shared} {r : Addr} {n : Nat} {t u v : Tok} {Q : Value → Shared → Prop} (hr : IsRange s.heap r 0 (n : Int) 1 t u v) (hn : n ≤ 1000)
    (hQ : Q (.ref s.heap.objs.size) { s with heap := s.heap.push { cls := .type "range_iterator", data := .fields #[rawInt 0, rawInt (n : Int), rawInt 1] } }) : wpAny (model prog w) A (pyIter (.ref r)) Q E s :=
  wpAny_pyIter_range hr (by unfold Builtin.Range.small; rw [rangeSize_to]; simp [Builtin.Range.rangeFitsLong]; omega) (by rw [rangeSize_to]; exact hQ)
/-- a list comprehension over a range whose element works on the heap -/
theorem comp_fx {elt iter : Expr} {x : Str} {px : Pos} {y : Str} {py : Pos} {scope : Scope} {cl : List (Str × Addr)} {pos : Pos} {Q : Value → Shared → Prop} {env : Env} {n : Nat} {a c : Int} {I : Addr} {J : Nat → List Value → List (Addr × Obj) → Prop}
    (hLe : env.locals = L) (hy : env.kindOf y = some .local) (hpy : (env.scope.kind == .class || (env.scope.kind == .module && env.locals != env.globals)) = false)
    (hh : A.handled = none) (hcell : ∀ y ∈ scope.names, y.2 ≠ .cell) (hkind : scope.kind = .function) (hx : scope.names.lookup x = some .local) (hn : n ≤ 1000)
    (F : Fr h₀ L s₂.heap m) (N : News h₀ L s₂.heap news) (hst : IsRangeIter s₂.heap I a (n : Int) c) (hIn : h₀.get? I = none) (hIL : I ≠ L)
    (hJ0 : J 0 [] news) (hJlt : ∀ i ys news', J i ys news' → ys.length = i ∧ ∀ p ∈ news', p.1 < I)
    (helt : ∀ (i : Nat) (ys : List Value) (news' : List (Addr × Obj)) (oI oC : Obj) (C D cc : Nat) (h' : Heap) (tk : Nat) (E' : Value → Shared → Prop), i < n → I < D → D < C → J i ys news' → Fr h₀ L h' m → News h₀ L h' ((I, oI) :: (C, oC) :: (D, listOf ys.toArray cc) :: news') →
      wpAny (model prog w) A (eval elt (compEnvC scope cl C env)) (fun y s₄ => ∃ h4 tk4 news4, s₄ = { s₂ with heap := h4, toks := tk4 } ∧ Fr h₀ L h4 m ∧ News h₀ L h4 ((I, oI) :: (C, oC) :: (D, listOf ys.toArray cc) :: news4) ∧ J (i + 1) (ys ++ [y]) news4) E' { s₂ with heap := h', toks := tk })
    (hQ : ∀ (D cc : Nat) (ys : List Value) (h' : Heap) (tk : Nat) (news' : List (Addr × Obj)), J n ys news' → I < D → Fr h₀ L h' (fun z => if z = y then some (.ref D) else m z) → News h₀ L h' ((D, listOf ys.toArray cc) :: news') → Q .none { s₂ with heap := h', toks := tk }) :
    wpAny (model prog w) A (newList []) (fun acc s₃ => wpAny (model prog w) A (newFunctionEnv scope env.globals cl [] env.qual none .none (some env)) (fun cenv s₄ =>
      codeAny (model prog w) A (.compStart (.ListComp elt [⟨.Name x px, iter, [], 0⟩] scope pos) 0 (.ref I) acc { cenv with scope := relabel scope env }) (compPost (model prog w) A E (some (assign (.Name y py) env)) Q acc cenv.locals) s₄) E s₃) E s₂ := by
  have W : Walks prog w A I [I] [I] n _ _ := Walks.range (prog := prog) (w := w) hh I a c n
  have hst' : IsRangeIter s₂.heap I (a + ((0 : Nat) : Int) * c) ((n : Int) - ((0 : Nat) : Int)) c := by simpa using hst
  refine wpAny_newObj_type (wpAny_newFunctionEnv hcell (by intro y hy; simp at hy) (fun h₁ hns₁ hsb₁ => ?_) hkind)
  dsimp only at hns₁ hsb₁ ⊢
  generalize hH2 : s₂.heap.push { cls := .type "list", dict := none, data := .seq ([] : List Value).toArray } = H2 at hns₁ hsb₁ ⊢
  have hC : H2.objs.size = s₂.heap.objs.size + 1 := by rw [← hH2, Heap.size_push]
  generalize hDd : s₂.heap.objs.size = D at *
  generalize hCd : H2.objs.size = C at *
  have hIs : I < D := hDd ▸ Heap.lt_size hst
  have hDC : D < C := by rw [hC]; exact Nat.lt_succ_self _
  have old : ∀ b o, s₂.heap.get? b = some o → h₁.get? b = some o := fun b o e =>
    hsb₁.extBut b o (Nat.ne_of_lt (Nat.lt_trans (hDd ▸ Heap.lt_size e) hDC)) (Heap.get?_push_of_some _ (hH2 ▸ Heap.get?_push_of_some _ e))
  have fresh : ∀ b, D ≤ b → s₂.heap.get? b = none := fun b hb => by
    cases e : s₂.heap.get? b with
    | none => rfl
    | some o' => exact absurd (hDd ▸ Heap.lt_size e : b < D) (Nat.not_lt.mpr hb)
  have fresh0 : ∀ b, D ≤ b → h₀.get? b = none := fun b hb => by
    cases e : h₀.get? b with
    | none => rfl
    | some o' => exact absurd (F.keep _ _ e) (by rw [fresh b hb]; simp)
  have hLD : L < D := by obtain ⟨o, e, _⟩ := ns_obj F.ns; exact hDd ▸ Heap.lt_size e
  have hCL : C ≠ L := Nat.ne_of_gt (Nat.lt_trans hLD hDC)
  have hDL : D ≠ L := Nat.ne_of_gt hLD
  have h0C : h₀.get? C = none := fresh0 C (Nat.le_of_lt hDC)
  have h0D : h₀.get? D = none := fresh0 D (Nat.le_refl _)
  have hIC : I ≠ C := Nat.ne_of_lt (Nat.lt_trans hIs hDC)
  have hID : I ≠ D := Nat.ne_of_lt hIs
  have hDCn : D ≠ C := Nat.ne_of_lt hDC
  have hxl : (compEnvC scope cl C env).kindOf x = some .local := lookup_relabel_local hx
  have hcl : ((compEnvC scope cl C env).scope.kind == .class || ((compEnvC scope cl C env).scope.kind == .module && (compEnvC scope cl C env).locals != (compEnvC scope cl C env).globals)) = false := by simp [compEnvC, relabel, hkind]
  have hacc : ∃ cc, h₁.get? D = some (listOf ([] : List Value).toArray cc) := ⟨_, hsb₁.extBut _ _ hDCn (Heap.get?_push_of_some _ (hH2 ▸ hDd ▸ Heap.get?_push_size _ rfl))⟩
  obtain ⟨cc, hacc⟩ := hacc
  have loop : ∀ s₃ : Shared, s₃ = { s₂ with heap := h₁, toks := s₂.toks + ([] : List (Str × Value)).length } →
      codeAny (model prog w) A (.compLoop (.ListComp elt [⟨.Name x px, iter, [], 0⟩] scope pos) 0 (.ref I) (.ref D) (compEnvC scope cl C env))
        (compPost (model prog w) A E (some (assign (.Name y py) env)) Q (.ref D) C) s₃ := by
    rintro s₃ rfl
    refine codeAny_compLoop_tests (fun k s' => ∃ (i : Nat) (h' : Heap) (tk : Nat) (ys : List Value) (cc : Nat) (news' : List (Addr × Obj)) (mC : Str → Option Value), s' = { s₂ with heap := h', toks := tk } ∧ i ≤ n ∧ k = n - i ∧ J i ys news' ∧
      IsRangeIter h' I (a + (i : Nat) * c) ((n : Int) - (i : Nat)) c ∧ Fr h₀ L h' m ∧ News h₀ L h' ((D, listOf ys.toArray cc) :: news') ∧ h'.Ns C mC) ?_ n ?_
    · rintro k s' ⟨i, h', tk, ys, cc, news', mC, rfl, hi, rfl, hJ, hit, F', N', hNC⟩
      obtain ⟨hlen, hlt⟩ := hJlt _ _ _ hJ
      by_cases hin : i < n
      · refine W.item i _ _ _ hin hit fun v h2 tk2 hP hit2 hk2 => ?_
        have hk2' : ∀ b o, b ≠ I → h'.get? b = some o → h2.get? b = some o := fun b o hb => hk2 b o (by simpa using hb)
        refine wpAny_assign_Name (wpAny_storeName_local hxl (hNC.at' fun o e => hk2' _ o (Ne.symm hIC) e) (fun h3 hn3 hs3 => ?_) hcl)
        refine wpAny_tests_nil ?_
        simp only [if_true]
        obtain ⟨oC, eC, kC⟩ := ns_obj hn3
        obtain ⟨oI, eI, kI⟩ : ∃ oI, h3.get? I = some oI ∧ ∀ h'' : Heap, h''.get? I = some oI → IsRangeIter h'' I (a + ((i + 1 : Nat) : Int) * c) ((n : Int) - ((i + 1 : Nat) : Int)) c := ⟨_, hs3.extBut _ _ hIC hit2, fun _ e => e⟩
        have up : ∀ b o, b ≠ I → b ≠ C → h'.get? b = some o → h3.get? b = some o := fun b o h1 h2 e => hs3.extBut b o h2 (hk2' b o h1 e)
        have F3 : Fr h₀ L h3 m := fr_butKeep (fr_butKeep F' ⟨hIL, hIn⟩ hk2') ⟨hCL, h0C⟩ fun b o hb e => hs3.extBut b o hb e
        have N3 : News h₀ L h3 ((I, oI) :: (C, oC) :: (D, listOf ys.toArray cc) :: news') := by
          intro p hp
          simp only [List.mem_cons] at hp
          rcases hp with rfl | rfl | rfl | hp
          · exact ⟨eI, hIL, hIn⟩
          · exact ⟨eC, hCL, h0C⟩
          · exact ⟨up _ _ (Ne.symm hID) hDCn (N' (D, _) (.head _)).1, hDL, h0D⟩
          · have h1 := hlt p hp
            exact ⟨up _ _ (Nat.ne_of_lt h1) (Nat.ne_of_lt (Nat.lt_trans h1 (Nat.lt_trans hIs hDC))) (N' p (.tail _ hp)).1, (N' p (.tail _ hp)).2⟩
        refine wpAny_mono (helt i ys news' oI oC C D cc h3 _ _ hin hIs hDC hJ F3 N3) (fun y s₄ h₄ => ?_) fun _ _ e => e
        obtain ⟨h4, tk4, news4, rfl, F4, N4, J4⟩ := h₄
        obtain ⟨hlen4, hlt4⟩ := hJlt _ _ _ J4
        refine wpAny_list_append_plain (items := ys.toArray) (hsz := by rw [List.size_toArray, hlen]; exact Nat.le_trans (Nat.le_trans hi hn) (by decide)) ⟨cc, (N4 (D, _) (by simp)).1⟩ fun h5 hl5 hs5 => ?_
        obtain ⟨c5, e5⟩ := hl5
        refine ⟨n - (i + 1), by omega, i + 1, h5, tk4, ys ++ [y], c5, news4, _, rfl, hin, rfl, J4, kI h5 (hs5.extBut _ _ hID (N4 (I, _) (.head _)).1), fr_butKeep F4 ⟨hDL, h0D⟩ (fun b o hb e => hs5.extBut b o hb e), ?_, kC h5 (hs5.extBut _ _ (Ne.symm hDCn) (N4 (C, _) (.tail _ (.head _))).1)⟩
        intro p hp
        rcases List.mem_cons.mp hp with rfl | hp
        · exact ⟨by rw [e5]; simp, hDL, h0D⟩
        · have h1 := hlt4 p hp
          exact ⟨hs5.extBut _ _ (Nat.ne_of_lt (Nat.lt_trans h1 hIs)) (N4 p (by simp [hp])).1, (N4 p (by simp [hp])).2⟩
      · have hin' : i = n := by omega
        subst hin'
        refine W.done _ _ _ hit fun h2 tk2 hk2 => ?_
        have hk2' : ∀ b o, b ≠ I → h'.get? b = some o → h2.get? b = some o := fun b o hb => hk2 b o (by simpa using hb)
        have F2 : Fr h₀ L h2 m := fr_butKeep F' ⟨hIL, hIn⟩ hk2'
        refine wpAny_assign_Name (wpAny_storeName_local hy (m := m) (by rw [hLe]; exact F2.ns) (fun h4 hn4 hs4 => ?_) hpy)
        rw [hLe] at hn4 hs4
        refine ⟨mC, hNC.at' fun o e => hs4.extBut _ _ hCL (hk2' _ o (Ne.symm hIC) e), fun h3 hs3 => ?_⟩
        refine hQ D cc ys h3 _ news' hJ hIs (fr_butKeep (F2.set hn4 hs4) ⟨hCL, h0C⟩ fun b o hb e => hs3.extBut b o hb e) ?_
        intro p hp
        have h1 : p.1 ≠ I ∧ p.1 ≠ C := by
          rcases List.mem_cons.mp hp with rfl | hp
          · exact ⟨Ne.symm hID, hDCn⟩
          · have := hlt p hp
            exact ⟨Nat.ne_of_lt this, Nat.ne_of_lt (Nat.lt_trans this (Nat.lt_trans hIs hDC))⟩
        exact ⟨hs3.extBut _ _ h1.2 (hs4.extBut _ _ (N' p hp).2.1 (hk2' _ _ h1.1 (N' p hp).1)), (N' p hp).2⟩
    · refine ⟨0, h₁, _, [], cc, news, _, rfl, Nat.zero_le _, rfl, hJ0, W.frame 0 _ _ hst' fun b _ o e => old b o e, fr_keepAll F old, ?_, hns₁⟩
      intro p hp
      rcases List.mem_cons.mp hp with rfl | hp
      · exact ⟨hacc, hDL, h0D⟩
      · exact ⟨old _ _ (N p hp).1, (N p hp).2⟩
  exact codeAny_compStart_list (loop _ rfl) (W.self 0 _ _ _ (W.frame 0 _ _ hst' fun b _ o e => old b o e) (loop _ rfl))
theorem Assign_fx {elt iter : Expr} {x y : Str} {px py : Pos} {scope : Scope} {cl : List (Str × Addr)} {pos spos : Pos} {Q : Flow → Shared → Prop} {env : Env} {s : Shared}
    (hsw : swapsWith (.ListComp elt [⟨.Name x px, iter, [], 0⟩] scope pos) (some (.Name y py)) spos.line env = pure true) (hclos : closureFor scope env = pure cl)
    (hkind : scope.kind = .function) (hnames : ∀ z ∈ scope.names, z.2 = .local → scope.names.lookup z.1 = some .local)
    (h : wpAny (model prog w) A (eval iter env) (fun xv s₁ => wpAny (model prog w) A (pyIter xv) (fun it s₂ => wpAny (model prog w) A (newList []) (fun acc s₃ => wpAny (model prog w) A (newFunctionEnv scope env.globals cl [] env.qual none .none (some env)) (fun cenv s₄ =>
      codeAny (model prog w) A (.compStart (.ListComp elt [⟨.Name x px, iter, [], 0⟩] scope pos) 0 it acc { cenv with scope := relabel scope env }) (compPost (model prog w) A E (some (assign (.Name y py) env)) (fun _ s' => Q .next s') acc cenv.locals) s₄) E s₃) E s₂) E s₁) E s)
    (hs : ∀ x, foldedSetIterable iter env x = pure x := by intro _; rfl) :
    wpAny (model prog w) A (exec (.Assign [.Name y py] (.ListComp elt [⟨.Name x px, iter, [], 0⟩] scope pos) spos) env) Q E s := by
  rw [exec_Assign_Name_used _ _ _ _ hsw]
  refine wpAny_bind (wpAny_standAt (wpAny_bind ?_))
  show wpAny _ A (do let _ ← comprehension (.ListComp elt [⟨.Name x px, iter, [], 0⟩] scope pos) scope env _ (newList []) false (eval iter env) (some (assign (.Name y py) env))) _ _ s
  exact wpAny_bind (wpAny_mono (wpAny_comprehension_free (Q := fun _ s' => Q .next s') rfl hs hclos hkind hnames h) (fun _ s' hq => wpAny_pure (wpAny_pure hq)) fun _ _ e => e)
end
end Mine
end
-- CY
section
open PySem PySem.W PyProof.Rows PySem.Spec PySem.Calls
set_option Elab.async false
set_option maxRecDepth 100000
namespace Mine
/-- a dict of signs and texts -/
inductive TabOf : List (Str × Value) → List (Nat × List Nat) → Prop
  | nil : TabOf [] []
  | cons {c : Nat} {z : List Nat} {t : Tok} {kvs : List (Str × Value)} {tb : List (Nat × List Nat)} : TabOf kvs tb → TabOf ((S [c], .str (S z) t) :: kvs) ((c, z) :: tb)
theorem news_pick {h₀ h : Heap} {L a : Addr} {o : Obj} {news big : List (Addr × Obj)} (N : News h₀ L h big) (hm : (a, o) ∈ big) (hs : ∀ p ∈ news, p ∈ big) : News h₀ L h ((a, o) :: news) := fun p hp => by
  rcases List.mem_cons.mp hp with rfl | hp
  · exact N _ hm
  · exact N p (hs p hp)
noncomputable abbrev rgo (v n c : Int) : Obj := { cls := .type "range_iterator", data := .fields #[rawInt v, rawInt n, rawInt c] }
theorem gtok {M : Model} {A : Around} {α : Type} {c : Sem α} {Q : α → Shared → Prop} {E : Value → Shared → Prop} {hp : Heap} {g : _} {d : _} {o : _} {a b : Nat} (h : ∀ tk, wpAny M A c Q E ⟨hp, g, d, tk, o⟩) : wpAny M A c Q E ⟨hp, g, d, a + b, o⟩ := h _
section
variable {prog : Program} {w : World} {A : Around} {E : Value → Shared → Prop} {s : Shared} {h₀ : Heap} {L : Addr} {m : Str → Option Value} {news : List (Addr × Obj)}
theorem next_range {I : Addr} {v n c : Int} {Q : Option Value → Shared → Prop} (F : Fr h₀ L s.heap m) (N : News h₀ L s.heap ((I, rgo v n c) :: news)) (hne : ∀ p ∈ news, p.1 < I) (hn : 0 < n)
    (h : ∀ h', Fr h₀ L h' m → News h₀ L h' ((I, rgo (v + c) (n - 1) c) :: news) → Q (some (.int v s.toks)) { s with heap := h', toks := s.toks + 1 }) : wpAny (model prog w) A (pyNext (.ref I)) Q E s := by
  have hI := N (I, _) (.head _)
  refine wpAny_pyNext_range_item (News.get N (.head _)) hn fun h' hit hs => h h' (fr_butKeep F hI.2 fun b o hb e => hs.extBut b o hb e) fun p hp => ?_
  rcases List.mem_cons.mp hp with rfl | hp
  · exact ⟨hit, hI.2⟩
  · exact ⟨hs.extBut _ _ (Nat.ne_of_lt (hne p hp)) (N p (.tail _ hp)).1, (N p (.tail _ hp)).2⟩
theorem next_range_end {I : Addr} {v n c : Int} {Q : Option Value → Shared → Prop} (hh : A.handled = none) (F : Fr h₀ L s.heap m) (N : News h₀ L s.heap ((I, rgo v n c) :: news)) (hne : ∀ p ∈ news, p.1 < I) (hn : n ≤ 0)
    (h : ∀ h', Fr h₀ L h' m → News h₀ L h' news → Q none { s with heap := h' }) : wpAny (model prog w) A (pyNext (.ref I)) Q E s := by
  have hI := N (I, _) (.head _)
  refine wpAny_pyNext_range_end hh (News.get N (.head _)) hn fun h' hs => h h' (fr_butKeep F hI.2 fun b o hb e => hs b o hb e) fun p hp => ?_
  exact ⟨hs _ _ (Nat.ne_of_lt (hne p hp)) (N p (.tail _ hp)).1, (N p (.tail _ hp)).2⟩
end
end Mine
end
-- MK
section
open PySem PySem.W PyProof.Rows PySem.Spec PySem.Calls
set_option Elab.async false
set_option maxRecDepth 100000
set_option maxHeartbeats 4000000
namespace Mine
/-- an object of a list's own class -/
noncomputable abbrev listInst (C dx : Addr) (vs : Array Value) (c : Nat) : Obj := { cls := .ref C, dict := some dx, data := .seq vs c }
structure MakesL (M : Model) (h : Heap) (C : Addr) : Prop where
  obj : ∃ oc od cd sl, h.get? C = some ⟨oc, od, .cls cd, sl⟩ ∧ cd.abstract = false ∧ cd.hasDel = false ∧ cd.mro.isEmpty = false
  made : Looks M h (Bind.madeBy (.ref C)) (some "list.__new__")
  base : Looks M h (Bind.staticBase (.ref C)) (.ref C)
  self : Looks M h (isSubtype (.ref C) (.ref C)) true
  top : Looks M h (isSubtype (.ref C) (.type "list")) true
  call : Looks M h (specialOf (.ref C) "__call__") (some (.builtin "type.__call__"))
  typ : Looks M h (isInstance (.ref C) (.type "type")) true
theorem makesL_of {K : Frag} {M : Model} {h : Heap} (X : K.In h) {C : Addr} {oc : Value} {od : Option Addr} {cd : ClassData} {sl : Array (Option Value)} (hl : K.lookup C = some ⟨oc, od, .cls cd, sl⟩)
    (e1 : cd.abstract = false) (e2 : cd.hasDel = false) (e3 : (sl.toList[4]?).join = some (.builtin "list.__new__")) (e4 : cd.mro.isEmpty = false) (m1 : mroIn K C (.ref C) = some true) (m2 : mroIn K C (.type "list") = some true)
    (s1 : specialIn K (.ref C) "__call__" = some (some (.builtin "type.__call__"))) (i1 : instIn K (.ref C) (.type "type") = some true) : MakesL M h C := by
  have hc : clsIn K C = some cd := by unfold clsIn; rw [hl]
  have hm : Looks M h (mroOf (.ref C)) cd.mro := (looks_clsIn X hc).andThen .now
  obtain ⟨c, l, hl2⟩ : ∃ c l, cd.mro = c :: l := by cases q : cd.mro with | nil => rw [q] at e4; cases e4 | cons c l => exact ⟨c, l, rfl⟩
  have made : Looks M h (Bind.madeBy (.ref C)) (some "list.__new__") := by
    intro A Q E s k q
    unfold Bind.madeBy
    refine wpAny_bind (hm A _ E s k ?_)
    rw [hl2, List.forIn_cons]
    refine wpAny_bind (wpAny_bind (wpAny_bind (wpAny_bind (wpAny_loadPart (k _ _ (X _ _ hl)) (wpAny_pure ?_)))))
    rw [← Array.getElem?_toList, e3]
    exact wpAny_pure (wpAny_pure (wpAny_pure q))
  refine ⟨⟨oc, od, cd, sl, X _ _ hl, e1, e2, e4⟩, made, ?_, looks_mroIn X m1, looks_mroIn X m2, looks_specialIn X s1, looks_instIn X i1⟩
  intro A Q E s k q
  unfold Bind.staticBase
  refine wpAny_bind (hm A _ E s k ?_)
  rw [hl2, List.forIn_cons]
  exact wpAny_bind (wpAny_bind (wpAny_bind (made A _ E s k (wpAny_pure (wpAny_pure (wpAny_pure q))))))
theorem ln_split : splitId "list.__new__" = some ("list", "__new__") := by decide +kernel
theorem ln_kind : builtinKind "list.__new__" = some .builtinFn := by decide +kernel
section
variable {prog : Program} {w : World} {A : Around} {K : Frag} {C : Addr} {R : Result → Shared → Prop} {h : Heap} {g : Array GenState} {d : Drawn} {t : Nat} {os : OsState}
theorem ln_args (C : Addr) (v : Value) : argsOk "list.__new__" ⟨[.ref C, v], []⟩ := by unfold argsOk; kernel_rfl
theorem new_L {v : Value} (Y : MakesL (model prog w) h C)
    (hq : R (.ok (.ret (.ref (h.objs.size + 1)))) ⟨(h.push emptyDict).push (listInst C h.objs.size #[] 0), g, d, t, os⟩) :
    codeAny (model prog w) A (.call (.builtin "list.__new__") ⟨[.ref C, v], []⟩) R ⟨h, g, d, t, os⟩ := by
  obtain ⟨⟨oc, od, cd, sl, hC, e1, e2, e4⟩, made, base, self, top, call, typ⟩ := Y
  have hown := owner_list_new
  have isT : Looks (model prog w) h (isType (.ref C)) true := (Looks.ld (part := none) hC).andThen .now
  refine codeAny_of_tree ?_
  show wpAny _ A.in1 (do checkBuiltinCall "list.__new__" ⟨[.ref C, v], []⟩; again (.builtin "list.__new__" ⟨[.ref C, v], []⟩)) _ _ _
  have ha := ln_args C v
  unfold argsOk at ha
  have fin : wpAny (model prog w) A.in1 (again (.builtin "list.__new__" ⟨[.ref C, v], []⟩)) (fun fin s' => match fin with | .done f => R (.ok f) s' | .again c' => c'.quiet = true ∧ codeAny (model prog w) A c' R s') (fun e s' => R (.error e) s') ⟨h, g, d, t, os⟩ := by
    refine wpAny_pure ⟨plainId_quiet F.plain_list_new _, codeAny_builtin_stack F.entry_list_new rfl fun p st => ?_⟩
    rw [Around.under_plainId F.plain_list_new _]
    simp only [hown]
    repeat (first | simp only [Bool.not_true, Bool.false_eq_true, if_false] | lk)
    refine wpAny_load (Heap.get?_push_of_some _ (Heap.get?_push_of_some _ hC)) (wpAny_pure ?_)
    rw [e2]
    refine wpAny_pure (wpAny_pure ?_)
    show R _ _
    rw [Heap.size_push]
    exact hq
  cases hsig : Manifest.signature? "list.__new__" with
  | none =>
    have hs : (Manifest.signature? "list.__new__").isSome = true := by kernel_rfl
    rw [hsig] at hs
    cases hs
  | some sig =>
    simp only [hsig] at ha
    simp only [checkBuiltinCall, ln_split, ln_kind, hsig]
    simp only [beq_self_eq_true, if_true]
    repeat (first | exact fin | simp only [Bool.not_true, bne_self_eq_false, Bool.false_eq_true, if_false, if_true] | rw [ha] | lk)
theorem makeL_core {v : Value} {fI : Addr} (Y : MakesL (model prog w) h C) (hi : Looks (model prog w) h (typeLookup (.ref C) "__init__") (some (.ref fI)))
    (hb : ∀ self, Looks (model prog w) h (bindSpecial (.ref fI) self) (.ref fI, [self]))
    (hq : codeAny (model prog w) (A.under (.builtin "type.__call__" ⟨[.ref C, v], []⟩)) (.call (.ref fI) ⟨[.ref (h.objs.size + 1), v], []⟩) (InitBack (h.objs.size + 1) R) ⟨(h.push emptyDict).push (listInst C h.objs.size #[] 0), g, d, t, os⟩) :
    codeAny (model prog w) A (.call (.ref C) ⟨[v], []⟩) R ⟨h, g, d, t, os⟩ := by
  have Y' := Y
  obtain ⟨⟨oc, od, cd, sl, hC, e1, e2, e4⟩, made, base, self, top, call, typ⟩ := Y
  refine codeAny_of_tree ?_
  show wpAny _ _ (callAny (.ref C) _) _ _ _
  refine nd_load hC ?_
  show wpAny _ _ (callAny.viaDunder (.ref C) _) _ _ _
  unfold callAny.viaDunder
  refine wpAny_bind (call.at ?_)
  dsimp only
  rw [tc_bind]
  refine wpAny_bind (wpAny_pure (wpAny_bind (wpAny_pure ?_)))
  refine wpAny_pure (a := Fin.again (.call (.builtin "type.__call__") ⟨[.ref C, v], []⟩)) (And.intro rfl ?_)
  refine codeAny_call_builtin_at (Code.quiet_builtin _ (by decide +kernel)) entry_typeCall (check_slot tc_kind tc_split typ (tc_args _ _ _) ?_)
  unfold Builtin.«type.__call__»
  have hm : Looks (model prog w) h (mroOf (.ref C)) cd.mro := ((Looks.ld (part := none) hC).andThen .now).andThen .now
  repeat (first | simp only [e4, Bool.false_eq_true, if_false] | with_reducible refine wpAny_call ?_ | lk)
  refine new_L Y' ?_
  have k : ∀ b o, h.get? b = some o → ((h.push emptyDict).push (listInst C h.objs.size #[] 0)).get? b = some o := fun b o e => Heap.get?_push_of_some _ (Heap.get?_push_of_some _ e)
  have hx : ((h.push emptyDict).push (listInst C h.objs.size #[] 0)).get? (h.objs.size + 1) = some (listInst C h.objs.size #[] 0) := by heap_get
  have t1 : Looks (model prog w) ((h.push emptyDict).push (listInst C h.objs.size #[] 0)) (typeOf (.ref (h.objs.size + 1))) (.ref C) := (Looks.ld hx).andThen .now
  have s1 := self.keeps k
  have i1 := hi.keeps k
  have b1 := (hb (.ref (h.objs.size + 1))).keeps k
  unfold isInstance callSpecial? specialOf
  repeat (first | with_reducible refine wpAny_call ?_ | lk)
  refine codeAny_mono hq fun r s' z => ?_
  rcases r with e | (v | _ | _ | _) <;> first | exact z | exact z.elim | skip
  obtain ⟨rfl, z⟩ := z
  exact wpAny_pure (wpAny_pure z)
end
section
variable {prog : Program} {w : World} {A : Around} {K : Frag} {C x : Addr} {s : Shared} {h₀ : Heap} {L : Addr} {m : Str → Option Value} {news : List (Addr × Obj)} {R : Result → Shared → Prop}
/-- a call of a list's own class -/
theorem makeL_K {v : Value} {fI : Addr} (F : Fr h₀ L s.heap m) (N : News h₀ L s.heap news) (X : K.In s.heap) (Y : MakesL (model prog w) s.heap C)
    (hi : findIn K (.ref C) "__init__" = some (some (.ref fI))) (hf : typeIn K (.ref fI) = some (.type "function"))
    (h : ∀ x dx h', Fr h₀ L h' m → News h₀ L h' ((x, listInst C dx #[] 0) :: (dx, emptyDict) :: news) → (∀ p ∈ news, p.1 < dx) → dx < x →
      codeAny (model prog w) (A.under (.builtin "type.__call__" ⟨[.ref C, v], []⟩)) (.call (.ref fI) ⟨[.ref x, v], []⟩) (InitBack x R) { s with heap := h' }) :
    codeAny (model prog w) A (.call (.ref C) ⟨[v], []⟩) R s := by
  obtain ⟨hh, g, d, t, os⟩ := s
  refine makeL_core Y (looks_findIn X hi) (fun self => bind_fn X self hf) (h _ hh.objs.size _ ((F.push _).push _) ?_ (fun p hp => Heap.lt_size (N p hp).1) (Nat.lt_succ_self _))
  have := (N.push F emptyDict).push (F.push _) (listInst C hh.objs.size #[] 0)
  rwa [Heap.size_push] at this
end
section
variable {prog : Program} {w : World} {M : Model} {A : Around} {E : Value → Shared → Prop} {h : Heap} {g : Array GenState} {d : Drawn} {t : Nat} {os : OsState}
theorem slot_wd_get : Slot "wrapper_descriptor" "__get__" "wrapper_descriptor.__get__" := .of (owner := "wrapper_descriptor") (n := "__get__") (by rw [typeLookup_type, builtinLookup_eq_fast]; kernel_rfl) (by decide +kernel) (by decide +kernel) (by decide +kernel)
  (by first | exact .inl (by decide +kernel) | exact .inr (by decide +kernel)) (by rw [isSubtype_type]; kernel_rfl)
theorem entry_wd_get : entryFor table "wrapper_descriptor.__get__" = some Builtin.«wrapper_descriptor.__get__» := entryFor_of_tree (by kernel_rfl)
theorem args_wd_get (a b c : Value) : argsOk "wrapper_descriptor.__get__" ⟨[a, b, c], []⟩ := by unfold argsOk; kernel_rfl
theorem type_li : typeOf (.builtin "list.__init__") = pure (.type "wrapper_descriptor") := by show builtinType _ = _; rw [builtinType_eq_fast]; kernel_rfl
theorem wd_get {x C : Addr} {Q : Fin → Shared → Prop} (hI : Looks M h (isInstance (.ref x) (.type "list")) true)
    (hq : Q (.done (.ret (.ref h.objs.size))) ⟨h.push { cls := .type "method-wrapper", data := .fields #[.builtin "list.__init__", .ref x] }, g, d, t, os⟩) :
    wpAny M A (Builtin.«wrapper_descriptor.__get__» ⟨[.builtin "list.__init__", .ref x, .ref C], []⟩) Q E ⟨h, g, d, t, os⟩ := by
  have e : ".".intercalate ("list.__init__".cutAt '.').dropLast = "list" := by decide +kernel
  have hI' : Looks M h (isInstance (.ref x) (.type (".".intercalate ("list.__init__".cutAt '.').dropLast))) true := by rw [e]; exact hI
  unfold Builtin.«wrapper_descriptor.__get__»
  repeat (first | (with_reducible refine Looks.at hI' ?_) | simp only [Bool.not_true, Bool.false_eq_true, if_false] | wp_step)
  all_goals exact hq
end
section
variable {prog : Program} {w : World} {M : Model} {A : Around} {E : Value → Shared → Prop} {h : Heap} {g : Array GenState} {d : Drawn} {t : Nat} {os : OsState}
theorem super_li {so D x C : Addr} {l₀ l : List Value} {K : Frag} {tk : Tok} {Q : Fin → Shared → Prop}
    (hso : h.get? so = some { cls := .type "super", dict := none, data := .fields #[.ref D, .ref x, .ref C], slots := #[] }) (hno : Looks (model prog w) h (opaqueClassAbove (.ref C)) none)
    (hC : Looks (model prog w) h (mroOf (.ref C)) l₀) (hl : (l₀.dropWhile (· != .ref D)).drop 1 = l) (X : K.In h)
    (hf : alongIn K "__init__" l = some (some (.builtin "list.__init__"))) (hI : Looks (model prog w) h (isInstance (.ref x) (.type "list")) true) (hxC : x ≠ C)
    (hq : Q (.done (.ret (.ref h.objs.size))) ⟨h.push { cls := .type "method-wrapper", data := .fields #[.builtin "list.__init__", .ref x] }, g, d, t, os⟩) :
    wpAny (model prog w) A (Builtin.«super.__getattribute__» ⟨[.ref so, .str "__init__" tk], []⟩) Q E ⟨h, g, d, t, os⟩ := by
  have hlk := slot_wd_get.lookup
  have hne : (Value.ref x == Value.ref C) = false := by simp [hxC]
  have hn : ((("__init__" : Str)) == ("__class__" : Str)) = false := by decide +kernel
  have hdt : ({ cls := .type "super", dict := none, data := .fields #[.ref D, .ref x, .ref C], slots := #[] } : Obj).data = .fields #[.ref D, .ref x, .ref C] := rfl
  have f0 : (#[.ref D, .ref x, .ref C] : Array Value)[0]? = some (.ref D) := rfl
  have f1 : (#[.ref D, .ref x, .ref C] : Array Value)[1]? = some (.ref x) := rfl
  have f2 : (#[.ref D, .ref x, .ref C] : Array Value)[2]? = some (.ref C) := rfl
  have hT : ∀ t', (⟨h, g, d, t', os⟩ : Shared).TypeIs (.builtin "list.__init__") "wrapper_descriptor" := fun _ => type_li
  unfold Builtin.«super.__getattribute__»
  repeat (first
    | (with_reducible refine wpAny_field hso hdt f0 ?_) | (with_reducible refine wpAny_field hso hdt f1 ?_) | (with_reducible refine wpAny_field hso hdt f2 ?_)
    | (with_reducible refine ks_wpAny_notOpaque hno ?_)
    | (with_reducible refine Looks.at hC ?_; rw [hl])
    | (refine ks_forIn_along X (fun _ _ => rfl) rfl ?_ hf)
    | (with_reducible refine wpAny_of_eq type_li ?_)
    | (with_reducible refine wpAny_of_eq hlk ?_)
    | (with_reducible refine wpAny_call_entry slot_wd_get (hT _) entry_wd_get ?_ (args_wd_get _ _ _))
    | (with_reducible refine wd_get hI ?_)
    | (with_reducible refine ⟨_, rfl, ?_⟩)
    | (simp only [hn, hne, Bool.or_false, Bool.false_eq_true, if_false])
    | wp_step
    | dsimp only)
  all_goals exact hq
theorem getMethod_li {so D x C : Addr} {l₀ l : List Value} {K : Frag} {pl : Sem Bool} {Q : Value × List Value → Shared → Prop}
    (hso : h.get? so = some { cls := .type "super", dict := none, data := .fields #[.ref D, .ref x, .ref C], slots := #[] }) (hno : Looks (model prog w) h (opaqueClassAbove (.ref C)) none)
    (hC : Looks (model prog w) h (mroOf (.ref C)) l₀) (hl : (l₀.dropWhile (· != .ref D)).drop 1 = l) (X : K.In h)
    (hf : alongIn K "__init__" l = some (some (.builtin "list.__init__"))) (hI : Looks (model prog w) h (isInstance (.ref x) (.type "list")) true) (hxC : x ≠ C)
    (hq : Q (.ref h.objs.size, []) ⟨h.push { cls := .type "method-wrapper", data := .fields #[.builtin "list.__init__", .ref x] }, g, d, t + 1, os⟩) :
    wpAny (model prog w) A (getMethod (.ref so) "__init__" pl) Q E ⟨h, g, d, t, os⟩ := by
  have hlk := F.ks_slot_super_ga.lookup
  have hcan := F.ks_canon_super_ga
  have hT : ∀ t', (⟨h, g, d, t', os⟩ : Shared).TypeIs (.ref so) "super" := fun _ => ⟨_, hso, rfl⟩
  unfold getMethod
  refine wpAny_bind (wpAny_specialOf (hT _) hlk ?_)
  show wpAny _ _ (if (Manifest.canonical "super.__getattribute__" != "object.__getattribute__") = true then _ else _) _ _ _
  rw [if_pos hcan]
  unfold getAttr getAttrBy
  refine wpAny_bind (wpAny_bind (wpAny_mkText (wpAny_holding (wpAny_bind (wpAny_typeOf (hT _) (wpAny_bind (wpAny_of_eq hlk ?_)))))))
  show wpAny _ _ (getAttrByItsOwn (.ref so) (.str "__init__" t) (.type "super") (.builtin "super.__getattribute__") true false) _ _ _
  unfold getAttrByItsOwn hookBefore callGetattribute boundAndCalled
  refine wpAny_bind (wpAny_of_eq (show (if onTheHeap (.type "super") then typeLookup (.type "super") "__getattr__" else pure none) = pure none from rfl) ?_)
  refine wpAny_bind (wpAny_attempt (wpAny_holding ?_))
  show wpAny _ _ (bindSpecial (.builtin "super.__getattribute__") (.ref so) >>= _) _ _ _
  refine wpAny_bind (wpAny_of_eq (F.ks_slot_super_ga.bind _) ?_)
  refine wpAny_mono (Q := fun v s' => v = .ref h.objs.size ∧ s' = ⟨h.push { cls := .type "method-wrapper", data := .fields #[.builtin "list.__init__", .ref x] }, g, d, t + 1, os⟩) (E := fun _ _ => False)
    (wpAny_call_entry F.ks_slot_super_ga (hT _) F.ks_entry_super_ga (super_li hso hno hC hl X hf hI hxC ⟨_, rfl, rfl, rfl⟩) (F.ks_gaArgs_super _ _)) (fun v s' hv => ?_) fun _ _ z => z.elim
  obtain ⟨rfl, rfl⟩ := hv
  exact wpAny_pure (wpAny_pure hq)
end
section
variable {prog : Program} {w : World} {A : Around} {E : Value → Shared → Prop} {s : Shared} {h₀ : Heap} {L : Addr} {m : Str → Option Value} {news : List (Addr × Obj)} {K : Frag} {x C D so : Addr} {ox : Obj} {odx : Option Obj}
noncomputable abbrev wrapObj (x : Addr) : Obj := { cls := .type "method-wrapper", data := .fields #[.builtin "list.__init__", .ref x] }
theorem method_li {pl : Sem Bool} {Q : Value × List Value → Shared → Prop} (F : Fr h₀ L s.heap m) (X₀ : K.In h₀) (N : News h₀ L s.heap news) (hso : (so, ks_superObj D x C) ∈ news) (I : InstAt s.heap x ox C odx) (ho : nsIn K cStatics "thirdparty.any" = some none)
    (hm : ks_superIn K C D "__init__" = some (some (.builtin "list.__init__"))) (hl : mroIn K C (.type "list") = some true)
    (h : ∀ q h', Fr h₀ L h' m → News h₀ L h' ((q, wrapObj x) :: news) → (∀ p ∈ news, p.1 < q) → Q (.ref q, []) { s with heap := h', toks := s.toks + 1 }) : wpAny (model prog w) A (getMethod (.ref so) "__init__" pl) Q E s := by
  have X : K.In s.heap := X₀.keeps F.keep
  obtain ⟨hh, g, d, t, os⟩ := s
  cases hc : clsIn K C with
  | none => unfold ks_superIn at hm; rw [hc] at hm; cases hm
  | some cd =>
    unfold ks_superIn at hm
    rw [hc] at hm
    have hI : Looks (model prog w) hh (isInstance (.ref x) (.type "list")) true := I.type.andThen (looks_mroIn X hl)
    refine getMethod_li (N _ hso).1 (looks_opaque X ho) (l₀ := cd.mro) ?_ rfl X hm hI (ks_ne X I hc) ?_
    · exact fun A Q E s k q => wpAny_bind ((looks_clsIn X hc) A _ E s k (wpAny_pure q))
    · obtain ⟨F', N', l'⟩ := ks_newsPush (s := ⟨hh, g, d, t, os⟩) (o := wrapObj x) F N rfl (Heap.get?_push_at rfl rfl) (fun b o e => Heap.get?_push_of_some _ e)
      exact h _ _ F' N' l'
end
end Mine
end
-- SL
section
open PySem PySem.W PyProof.Rows PySem.Spec PySem.Calls
set_option Elab.async false
set_option maxRecDepth 100000
set_option maxHeartbeats 4000000
namespace Mine
theorem instL {h₀ h : Heap} {L x C dx : Addr} {news : List (Addr × Obj)} {od : Obj} {vs : Array Value} {c : Nat} (N : News h₀ L h news) (h1 : (x, listInst C dx vs c) ∈ news) (h2 : (dx, od) ∈ news) :
    InstAt h x (listInst C dx vs c) C (some od) := ⟨(N _ h1).1, rfl, rfl, (N _ h2).1⟩
section
variable {prog : Program} {w : World} {A : Around} {E : Value → Shared → Prop} {s : Shared} {h₀ : Heap} {L : Addr} {m : Str → Option Value} {news : List (Addr × Obj)} {K : Frag} {x C dx so : Addr} {ox : Obj}
theorem args_li (x : Addr) : argsOk "list.__init__" ⟨[.ref x], []⟩ := by unfold argsOk; kernel_rfl
theorem kind_li : builtinKind "list.__init__" = some .slot := by decide +kernel
theorem plain_li : plainId "list.__init__" = true := by decide +kernel
theorem bound_li (x : Addr) : checkBoundCall "list.__init__" ⟨[.ref x], []⟩ = pure () := by
  have h := args_li x
  unfold argsOk at h
  unfold checkBoundCall
  cases hs : Manifest.signature? "list.__init__" with
  | none => rfl
  | some sig =>
    rw [hs] at h
    simp only [kind_li]
    exact h
theorem call_li {q : Addr} {Q : Value → Shared → Prop} {dx C : Addr} {c : Nat} (F : Fr h₀ L s.heap m) (N : News h₀ L s.heap news) (hq : (q, wrapObj x) ∈ news) (hx : (x, listInst C dx #[] c) ∈ news)
    (h : ∀ h', Fr h₀ L h' m → News h₀ L h' news → Q .none { s with heap := h' }) :
    wpAny (model prog w) A (call (.ref q) []) Q E s := by
  have hw := (N _ hq).1
  have hx' := (N _ hx).1
  refine wpAny_call (codeAny_of_tree ?_)
  show wpAny _ _ (callAny (.ref q) _) _ _ _
  unfold callAny
  refine wpAny_bind (wpAny_load hw ?_)
  dsimp only
  rw [if_pos (by decide +kernel)]
  show wpAny _ _ (do checkBoundCall "list.__init__" ⟨[.ref x], []⟩; again (.builtin "list.__init__" ⟨[.ref x], []⟩)) _ _ _
  rw [bound_li]
  refine wpAny_bind (wpAny_pure (wpAny_pure ⟨plainId_quiet plain_li _, codeAny_builtin PySem.F.entry_list_init ?_⟩))
  rw [Around.under_plainId plain_li _]
  show wpAny _ _ (Builtin.List.listItems (.ref x) >>= _) _ _ _
  refine wpAny_bind ?_
  unfold Builtin.List.listItems
  refine wpAny_bind (wpAny_seqItems hx' rfl (wpAny_pure ?_))
  show wpAny _ _ (updateSeq x (fun _ => #[]) >>= _) _ _ _
  refine wpAny_bind (wpAny_updateSeq hx' rfl ?_)
  refine wpAny_bind (wpAny_letGo ?_)
  refine wpAny_pure ?_
  have hself := Heap.get?_update_self (Obj.mapSeq fun _ => (#[] : Array Value)) hx' rfl
  have hsb : Heap.SameBut x s.heap (s.heap.update x (Obj.mapSeq fun _ => #[])) := Heap.SameBut.update ..
  refine h _ (F.change hsb (N _ hx).2.1 (N _ hx).2.2) fun p hp => ?_
  by_cases hpx : p.1 = x
  · have e1 := (N p hp).1
    rw [hpx, hx'] at e1
    refine ⟨?_, (N p hp).2⟩
    rw [hpx, hself, ← Option.some.inj e1]
    rfl
  · exact ⟨(hsb.2 _ hpx).trans (N p hp).1, (N p hp).2⟩
theorem check_meth {M : Model} {A : Around} {E : Value → Shared → Prop} {s : Shared} {i owner n : String} {self : Value} {rest : List Value} {Q : Unit → Shared → Prop}
    (hk : builtinKind i = some .method) (hs : splitId i = some (owner, n)) (hi : Looks M s.heap (isInstance self (.type owner)) true) (ha : argsOk i ⟨self :: rest, []⟩) (q : Q () s) :
    wpAny M A (checkBuiltinCall i ⟨self :: rest, []⟩) Q E s := by
  simp only [checkBuiltinCall, hk, hs]
  refine wpAny_bind (hi.here ?_)
  simp only [Bool.not_true, Bool.false_eq_true, if_false]
  cases hsig : Manifest.signature? i with
  | none => exact wpAny_pure q
  | some sig =>
    simp only [argsOk, hsig] at ha
    have h2 : Bind.checkArgs i sig ⟨self :: rest, []⟩ = pure () := ha
    show wpAny M A (Bind.checkArgs i sig ⟨self :: rest, []⟩) Q E s
    rw [h2]; exact wpAny_pure q
theorem la_split : splitId "list.append" = some ("list", "append") := by decide +kernel
theorem la_kind : builtinKind "list.append" = some .method := by decide +kernel
theorem la_plain : plainId "list.append" = true := by decide +kernel
theorem append_L {its : Array Value} {n : Nat} {v : Value} {Q : Value → Shared → Prop} {news' : List (Addr × Obj)} (X₀ : K.In h₀) (F : Fr h₀ L s.heap m) (N : News h₀ L s.heap news) (hl : mroIn K C (.type "list") = some true) (hc : ∃ od, (dx, od) ∈ news) (U : Upd x (listInst C dx its n) (listInst C dx (its.push v) (n + 1)) news news')
    (h : ∀ h', Fr h₀ L h' m → News h₀ L h' news' → Q .none { s with heap := h' }) (hsz : its.size ≤ sizeLine := by size_fits) : wpAny (model prog w) A (call (.builtin "list.append") [.ref x, v]) Q E s := by
  have X := X₀.keeps F.keep
  obtain ⟨od, hod⟩ := hc
  obtain ⟨pre, post, rfl, rfl, a, b⟩ := U.split
  have z := N (x, listInst C dx its n) (List.mem_append.mpr (.inr (.head _)))
  have I : InstAt s.heap x (listInst C dx its n) C (some od) := ⟨z.1, rfl, rfl, (N _ hod).1⟩
  refine wpAny_call (codeAny_call_builtin la_plain entry_list_append (check_meth la_kind la_split (I.type.andThen (looks_mroIn X hl)) (args_list_append _ _) ?_))
  show wpAny _ _ (updateSeq x (·.push v) >>= fun _ => ret .none) _ _ s
  refine wpAny_bind ?_
  have hm : Obj.mapSeq (·.push v) (listInst C dx its n) = listInst C dx (its.push v) (n + 1) := by
    simp [Obj.mapSeq]
  refine wpAny_updateSeq z.1 rfl (wpAny_pure (h _ (F.change (Heap.SameBut.update ..) z.2.1 z.2.2) (news_set N a b (Heap.SameBut.update ..) ?_)))
  rw [Heap.get?_update_self _ z.1 (by rw [hm]; rfl), hm]
end
end Mine
end
local macro_rules | `(tactic| k_inst) => `(tactic| (refine' instL ?N ?h1 ?h2; (case N => k_asm); (case h1 => k_mem); (case h2 => k_mem)))
-- IT
section
open PySem PySem.W PyProof.Rows PySem.Spec PySem.Calls
set_option Elab.async false
set_option maxRecDepth 100000
set_option maxHeartbeats 4000000
namespace Mine
theorem lit_split : splitId "list.__iter__" = some ("list", "__iter__") := by decide +kernel
theorem lit_kind : builtinKind "list.__iter__" = some .slot := by decide +kernel
theorem lit_plain : plainId "list.__iter__" = true := by decide +kernel
theorem lit_bind (self : Value) : bindSpecial (.builtin "list.__iter__") self = pure (.builtin "list.__iter__", [self]) := slot_list_iter.bind self
section
variable {prog : Program} {w : World} {A : Around} {E : Value → Shared → Prop} {s : Shared} {h₀ : Heap} {L : Addr} {m : Str → Option Value} {news : List (Addr × Obj)} {K : Frag} {x C dx so : Addr} {ox : Obj} {od : Option Obj}
theorem pyIter_L {Q : Value → Shared → Prop} (X : K.In s.heap) (I : InstAt s.heap x ox C od) (hf : findIn K (.ref C) "__iter__" = some (some (.builtin "list.__iter__"))) (hl : mroIn K C (.type "list") = some true)
    (hQ : Q (.ref s.heap.objs.size) { s with heap := s.heap.push { cls := .type "list_iterator", data := .fields #[.ref x, .int 0 0] } }) :
    wpAny (model prog w) A (pyIter (.ref x)) Q E s := by
  have sp : Looks (model prog w) s.heap (specialOf (.ref x) "__iter__") (some (.builtin "list.__iter__")) := I.type.andThen (looks_findIn X hf)
  have hI : Looks (model prog w) s.heap (isInstance (.ref x) (.type "list")) true := I.type.andThen (looks_mroIn X hl)
  unfold pyIter
  refine wpAny_bind (sp.here ?_)
  dsimp only
  refine wpAny_bind ?_
  unfold callSpecialIfBoundUnlessNone? bindSpecialIfBound?
  refine wpAny_holding (wpAny_bind (wpAny_bind (sp.here ?_)))
  dsimp only
  rw [lit_bind]
  have fin : wpAny (model prog w) A (call (.builtin "list.__iter__") [.ref x]) (fun it s' => wpAny (model prog w) A (do
      match ← specialOf it "__next__" with
      | none => rule "iter.non-iterator"; raiseError "TypeError" s!"iter() returned non-iterator of type '{← typeNameOf it}'"
      | some _ => pure it) Q E s') E s := by
    refine wpAny_call (codeAny_call_builtin lit_plain entry_list_iter (check_slot lit_kind lit_split hI (args_list_iter _) ?_))
    show wpAny _ _ (do ret (← newFields "list_iterator" [.ref x, rawInt 0])) _ _ s
    refine wpAny_bind (wpAny_newObj_type (wpAny_pure ?_))
    exact wpAny_bind (wpAny_specialOf (T := "list_iterator") ⟨_, Heap.get?_push_size _ rfl, rfl⟩ slot_listiter_next.lookup (wpAny_pure hQ))
  refine wpAny_bind (wpAny_askSetting ?_)
  split
  · refine wpAny_bind (wpAny_pure (wpAny_pure ?_))
    dsimp only
    rw [if_neg (by decide +kernel)]
    exact wpAny_bind (wpAny_mono fin (fun _ _ z => wpAny_pure z) fun _ _ z => z)
  · refine wpAny_tryCatch (wpAny_bind (wpAny_pure (wpAny_pure ?_)))
    dsimp only
    rw [if_neg (by decide +kernel)]
    exact wpAny_bind (wpAny_mono fin (fun _ _ z => wpAny_pure z) fun _ _ z => z)
/-- a list, or an object of a list's own class -/
noncomputable def SeqAt (h : Heap) (l : Addr) (items : Array Value) : Prop := ∃ o n, h.get? l = some o ∧ o.data = .seq items n
theorem SeqAt.at {h h' : Heap} {l : Addr} {items : Array Value} (x : SeqAt h l items) (k : ∀ o, h.get? l = some o → h'.get? l = some o) : SeqAt h' l items := let ⟨o, n, e, d⟩ := x; ⟨o, n, k o e, d⟩
theorem nextOf_item {it l : Addr} {i : Nat} {items : Array Value} {v : Value} {Q : Value → Shared → Prop} (hit : s.heap.IsListIter it l i) (hl : SeqAt s.heap l items) (hx : items[i]? = some v)
    (hQ : ∀ h', h'.IsListIter it l (i + 1) → Heap.SameBut it s.heap h' → Q v { s with heap := h' }) :
    wpAny (model prog w) A (Builtin.SmallTypes.nextOf (.ref it)) Q E s := by
  obtain ⟨o, ho, hc, hd⟩ := id hit
  obtain ⟨ol, nl, hol, hdl⟩ := hl
  unfold Builtin.SmallTypes.nextOf
  refine wpAny_bind (wpAny_callSpecial?_slot (name := Str.ofString "__next__") hit.typeIs slot_listiter_next
    (wpAny_call_entry slot_listiter_next hit.typeIs entry_listiter_next ?_ (args_listiter_next _)))
  show wpAny _ _ (field (.ref it) 0 >>= _) _ _ s
  refine wpAny_bind (wpAny_field ho hd (x := .ref l) rfl ?_)
  show wpAny _ _ (if (Value.ref l == Value.none) = true then _ else _) _ _ s
  rw [if_neg (show ¬ ((Value.ref l == Value.none) = true) from Bool.false_ne_true)]
  show wpAny _ _ (field (.ref it) 1 >>= _) _ _ s
  refine wpAny_bind (wpAny_field ho hd (x := .int i 0) rfl ?_)
  show wpAny _ _ (seqItems? (.ref l) >>= _) _ _ s
  refine wpAny_bind (wpAny_seqItems hol hdl ?_)
  simp only [Int.toNat_natCast, hx]
  refine wpAny_bind (wpAny_setField ho hd (by simp) (wpAny_pure ⟨v, rfl, wpAny_pure (hQ _ ?_ (Heap.SameBut.update ..))⟩))
  exact ⟨_, Heap.get?_update_self _ ho (Obj.isFreed_of_fields (Obj.data_mapFields hd _)), (Obj.cls_mapFields ..).trans hc, by
    rw [Obj.data_mapFields hd]; simp [rawInt]⟩
theorem next_item {it l : Addr} {i : Nat} {items : Array Value} {v : Value} {Q : Option Value → Shared → Prop} (hit : s.heap.IsListIter it l i) (hl : SeqAt s.heap l items) (hx : items[i]? = some v)
    (hQ : ∀ h', h'.IsListIter it l (i + 1) → Heap.SameBut it s.heap h' → Q (some v) { s with heap := h' }) :
    wpAny (model prog w) A (pyNext (.ref it)) Q E s := by
  obtain ⟨o, ho, hc, hd⟩ := id hit
  obtain ⟨ol, nl, hol, hdl⟩ := hl
  unfold pyNext
  refine wpAny_bind (wpAny_attempt (wpAny_callSpecial?_slot (name := Str.ofString "__next__") hit.typeIs slot_listiter_next
    (wpAny_call_entry slot_listiter_next hit.typeIs entry_listiter_next ?_ (args_listiter_next _))))
  show wpAny _ _ (field (.ref it) 0 >>= _) _ _ s
  refine wpAny_bind (wpAny_field ho hd (x := .ref l) rfl ?_)
  show wpAny _ _ (if (Value.ref l == Value.none) = true then _ else _) _ _ s
  rw [if_neg (show ¬ ((Value.ref l == Value.none) = true) from Bool.false_ne_true)]
  show wpAny _ _ (field (.ref it) 1 >>= _) _ _ s
  refine wpAny_bind (wpAny_field ho hd (x := .int i 0) rfl ?_)
  show wpAny _ _ (seqItems? (.ref l) >>= _) _ _ s
  refine wpAny_bind (wpAny_seqItems hol hdl ?_)
  simp only [Int.toNat_natCast, hx]
  refine wpAny_bind (wpAny_setField ho hd (by simp) (wpAny_pure ⟨v, rfl, wpAny_pure (hQ _ ?_ (Heap.SameBut.update ..))⟩))
  exact ⟨_, Heap.get?_update_self _ ho (Obj.isFreed_of_fields (Obj.data_mapFields hd _)), (Obj.cls_mapFields ..).trans hc, by
    rw [Obj.data_mapFields hd]; simp [rawInt]⟩
theorem nextOf_end {it l : Addr} {i : Nat} {items : Array Value} {Q : Value → Shared → Prop} (hh : A.handled = none) (hit : s.heap.IsListIter it l i) (hl : SeqAt s.heap l items) (hx : items[i]? = none)
    (hE : ∀ h' e, Heap.ExtBut it s.heap h' → (∃ o, h'.get? e = some o ∧ o.cls = .type "StopIteration") → E (.ref e) { s with heap := h' }) :
    wpAny (model prog w) A (Builtin.SmallTypes.nextOf (.ref it)) Q E s := by
  obtain ⟨o, ho, hc, hd⟩ := id hit
  obtain ⟨ol, nl, hol, hdl⟩ := hl
  unfold Builtin.SmallTypes.nextOf
  refine wpAny_bind (wpAny_callSpecial?_slot (name := Str.ofString "__next__") hit.typeIs slot_listiter_next
    (wpAny_call_entry slot_listiter_next hit.typeIs entry_listiter_next ?_ (args_listiter_next _)))
  show wpAny _ _ (field (.ref it) 0 >>= _) _ _ s
  refine wpAny_bind (wpAny_field ho hd (x := .ref l) rfl ?_)
  show wpAny _ _ (if (Value.ref l == Value.none) = true then _ else _) _ _ s
  rw [if_neg (show ¬ ((Value.ref l == Value.none) = true) from Bool.false_ne_true)]
  show wpAny _ _ (field (.ref it) 1 >>= _) _ _ s
  refine wpAny_bind (wpAny_field ho hd (x := .int i 0) rfl ?_)
  show wpAny _ _ (seqItems? (.ref l) >>= _) _ _ s
  refine wpAny_bind (wpAny_seqItems hol hdl ?_)
  simp only [Int.toNat_natCast, hx]
  refine wpAny_bind (wpAny_rule (wpAny_bind (wpAny_setField ho hd (by simp) ?_)))
  show wpAny _ _ (newExc (.type "StopIteration") [] >>= _) _ _ _
  refine wpAny_bind ?_
  simp only [newExc, newTuple]
  refine wpAny_bind (wpAny_newObj_type ?_ (by size_fits))
  refine wpAny_bind (m := firstArgMember _ _) (wpAny_of_eq (a := Value.none) (by first | rfl | (simp only [firstArgMember]; rfl)) ?_)
  refine wpAny_newObj_type ?_ (by size_fits)
  simp only [raiseNew]
  refine wpAny_bind (wpAny_handled ?_)
  first | rw [show A.in1.handled = none from hh] | rw [hh]
  refine wpAny_bind (wpAny_pure (wpAny_throw ?_))
  exact hE _ _ (((Heap.SameBut.update ..).extBut.push _).push _) ⟨_, Heap.get?_push_size _ rfl, rfl⟩
theorem next_end {it l : Addr} {i : Nat} {items : Array Value} {Q : Option Value → Shared → Prop} (hh : A.handled = none) (hit : s.heap.IsListIter it l i) (hl : SeqAt s.heap l items) (hx : items[i]? = none)
    (hQ : ∀ h', Heap.ExtBut it s.heap h' → Q none { s with heap := h' }) : wpAny (model prog w) A (pyNext (.ref it)) Q E s := by
  obtain ⟨o, ho, hc, hd⟩ := id hit
  obtain ⟨ol, nl, hol, hdl⟩ := hl
  unfold pyNext
  refine wpAny_bind (wpAny_attempt (wpAny_callSpecial?_slot (name := Str.ofString "__next__") hit.typeIs slot_listiter_next
    (wpAny_call_entry slot_listiter_next hit.typeIs entry_listiter_next ?_ (args_listiter_next _))))
  show wpAny _ _ (field (.ref it) 0 >>= _) _ _ s
  refine wpAny_bind (wpAny_field ho hd (x := .ref l) rfl ?_)
  show wpAny _ _ (if (Value.ref l == Value.none) = true then _ else _) _ _ s
  rw [if_neg (show ¬ ((Value.ref l == Value.none) = true) from Bool.false_ne_true)]
  show wpAny _ _ (field (.ref it) 1 >>= _) _ _ s
  refine wpAny_bind (wpAny_field ho hd (x := .int i 0) rfl ?_)
  show wpAny _ _ (seqItems? (.ref l) >>= _) _ _ s
  refine wpAny_bind (wpAny_seqItems hol hdl ?_)
  simp only [Int.toNat_natCast, hx]
  refine wpAny_bind (wpAny_rule (wpAny_bind (wpAny_setField ho hd (by simp) ?_)))
  show wpAny _ _ (newExc (.type "StopIteration") [] >>= _) _ _ _
  refine wpAny_bind ?_
  simp only [newExc, newTuple]
  refine wpAny_bind (wpAny_newObj_type ?_ (by size_fits))
  refine wpAny_bind (m := firstArgMember _ _) (wpAny_of_eq (a := Value.none) (by first | rfl | (simp only [firstArgMember]; rfl)) ?_)
  refine wpAny_newObj_type ?_ (by size_fits)
  simp only [raiseNew]
  refine wpAny_bind (wpAny_handled ?_)
  first | rw [show A.in1.handled = none from hh] | rw [hh]
  refine wpAny_bind (wpAny_pure (wpAny_throw ?_))
  refine wpAny_bind (wpAny_isInstance (T := "StopIteration") (b := true) ⟨_, Heap.get?_push_size _ rfl, rfl⟩ isSubtype_stop ?_)
  exact wpAny_pure (hQ _ (((Heap.SameBut.update ..).extBut.push _).push _))
end
theorem walks_pairs {prog : Program} {w : World} {A : Around} (hh : A.handled = none) (I ax : Addr) (hne : ax ≠ I) (items : Array Value) (Ts : Nat → Addr) (vals : Nat → Array Value)
    (hit : ∀ j, j < items.size → items[j]? = some (.ref (Ts j))) (hTI : ∀ j, j < items.size → Ts j ≠ I) :
    WalksU prog w A I (I :: ax :: (List.range items.size).map Ts) [I] items.size (fun j v => j < items.size ∧ v = vals j)
      (fun j h => h.IsListIter I ax j ∧ SeqAt h ax items ∧ ∀ k, k < items.size → h.IsTuple (Ts k) (vals k))
      (fun j T h => (j < items.size ∧ T = Ts j) ∧ h.IsListIter I ax (j + 1) ∧ SeqAt h ax items ∧ ∀ k, k < items.size → h.IsTuple (Ts k) (vals k)) where
  sub := fun b hb => by simp at hb; simp [hb]
  frame := fun _ _ _ st hk => ⟨st.1.at fun o e => hk I (by simp) o e, st.2.1.at fun o e => hk ax (by simp) o e,
    fun k hk' => (st.2.2 k hk').at fun o e => hk (Ts k) (List.mem_cons_of_mem _ (List.mem_cons_of_mem _ (List.mem_map.mpr ⟨k, List.mem_range.mpr hk', rfl⟩))) o e⟩
  item := fun i s Q E hi st hQ => by
    refine next_item st.1 st.2.1 (v := .ref (Ts i)) (hit i hi) fun h' hit' hs' => ?_
    have tup : ∀ k, k < items.size → h'.IsTuple (Ts k) (vals k) := fun k hk' => (st.2.2 k hk').extBut hs'.extBut (hTI k hk')
    exact hQ (Ts i) (vals i) h' s.toks ⟨hi, rfl⟩ (tup i hi) ⟨⟨hi, rfl⟩, hit', st.2.1.at fun o e => hs'.extBut _ o hne e, tup⟩ fun b o hb e => hs'.extBut b o (fun h => hb (by simp [h])) e
  go := fun _ _ _ _ _ s Q _ hm hQ => wpAny_letOwnedTupleGo_listiter hm.2.1 (hQ s.heap hm.2 fun _ _ _ e => e)
  apart := fun j T _ hm hmem => by
    rcases List.mem_cons.mp hmem with e | e
    · exact hTI j hm.1.1 (hm.1.2 ▸ e)
    · cases e
  done := fun s Q E st hQ => next_end hh st.1 st.2.1 (by simp) fun h' he' => hQ h' s.toks fun b o hb e => he' b o (fun h => hb (by simp [h])) e
  self := fun _ _ _ _ st hQ => wpAny_pyIter_listiter st.1 hQ
end Mine
end
-- GN
section
open PySem PySem.W PyProof.Rows PySem.Spec PySem.Calls
set_option Elab.async false
set_option maxRecDepth 100000
set_option maxHeartbeats 4000000
namespace Mine
section
variable {prog : Program} {w : World} {A : Around} {E : Value → Shared → Prop} {s : Shared}
theorem args_sum2 (a b : Value) : argsOk "sum" ⟨[a, b], []⟩ := by unfold argsOk; kernel_rfl
theorem call_sum2 {x : Value} {t0 : Tok} {Q : Value → Shared → Prop}
    (h : wpAny (model prog w) A.in1 (pyIter x) (fun it s₂ => ∃ I fp wr G n P St val, it = .ref I ∧ WalksS prog w A.in1 I fp wr G n P St ∧ St 0 s₂ ∧ (∀ b ∈ fp, b < s₂.heap.objs.size) ∧
      (∀ i v, P i v → ∃ t, v = .int (val i) t) ∧
      ∀ s' t', Moved wr G s₂ s' → Q (.int (preSum val n) t') s') E s) :
    wpAny (model prog w) A (call (.builtin "sum") [x, .int 0 t0]) Q E s := by
  refine call_function_tree F.kind_sum F.plain_sum F.entry_sum (args_sum2 _ _) ?_
  unfold Builtin.«sum»
  simp only [List.length_cons, List.length_nil]
  rw [if_neg (by decide)]
  refine wpAny_bind (wpAny_of_eq (show Builtin.Builtins.bindParams "sum" ["start"] 0 ⟨[.int 0 t0], []⟩ = pure [some (.int 0 t0)] from rfl) ?_)
  refine wpAny_bind (wpAny_mono h (fun it s₂ h₂ => ?_) fun _ _ e => e)
  obtain ⟨I, fp, wr, G, n, P, St, val, rfl, W, hst, hfp, hval, hQ⟩ := h₂
  dsimp only
  rw [if_pos (by decide +kernel)]
  refine wpAny_bind (wpAny_rule (wpAny_bind (wpAny_mkInt (wpAny_bind (wpAny_pure ?_)))))
  simp only [List.forIn_cons, List.forIn_nil]
  refine wpAny_bind (wpAny_bind (wpAny_bind (wpAny_isInstance (T := "int") (b := false) (typeIs_int _ _ _) PySem.sub_int_str ?_)))
  simp only [Bool.false_eq_true, if_false]
  refine wpAny_pure (wpAny_bind (wpAny_bind (wpAny_isInstance (T := "int") (b := false) (typeIs_int _ _ _) PySem.sub_int_bytes ?_)))
  simp only [Bool.false_eq_true, if_false]
  refine wpAny_pure (wpAny_bind (wpAny_bind (wpAny_isInstance (T := "int") (b := false) (typeIs_int _ _ _) PySem.sub_int_bytearray ?_)))
  simp only [Bool.false_eq_true, if_false]
  refine wpAny_pure (wpAny_pure ?_)
  refine wpAny_bind (wpAny_newObj_type ?_)
  have hSf : s₂.heap.objs.size ∉ fp := fun hm => Nat.lt_irrefl _ (hfp _ hm)
  refine wpAny_pure ⟨plainId_quiet F.plain_sum_loop _, codeAny_sum_loopAnyS W val hval s₂.heap.objs.size hSf n 0 _ s₂.toks 0 0 (.inl rfl) rfl (Nat.zero_le _)
    (W.frame 0 s₂ _ _ hst (by first | exact Nat.le_refl _ | exact Nat.le_succ _ | omega) fun b _ o e => Heap.get?_push_of_some _ e) (Heap.get?_push_size _ rfl) fun s' t' hm => ?_⟩
  exact hQ s' t' (hm.drop_new (by first | exact Nat.le_refl _ | exact Nat.le_succ _ | omega))
theorem elt_len1 {env : Env} {x : Str} {p px pos : Pos} {m mg mb : Str → Option Value} {y : Str} {t : Tok} {Q : Value → Shared → Prop} (hk : env.scope.kind = .function) (hl : env.kindOf "len" = some .globalImplicit)
    (hx : env.kindOf x = some .local) (hd : (x == ("__debug__" : Str)) = false) (hn : s.heap.Ns env.locals m) (hv : m x = some (.str y t)) (hg : s.heap.Ns env.globals mg) (h0 : mg "len" = none) (hb : s.heap.Ns env.builtins mb) (h1 : mb "len" = some (.builtin "len"))
    (hfit : y.length ≤ 100000) (h : Q (.int y.length (s.toks + 1)) { s with toks := s.toks + 1 + 1 }) : wpAny (model prog w) A (eval (.Call (.Name "len" p) [.Name x px] [] pos) env) Q E s := by
  refine Call_Name1 (wpAny_Name (ks_loadName_global hk hl (loadGlobal_builtin hg h0 hb h1 ?_)))
  refine Calls.callWith_builtin rfl (Calls.evalArgs_plain (Calls.spliced_cons (wpAny_Name (wpAny_loadName_local hk hx hn hv (Calls.spliced_nil ?_)) hd)))
  exact len_str (by omega) h
theorem elt_lens {env : Env} {p1 p2 p3 p4 p5 p6 p7 : Pos} {m mg mb : Str → Option Value} {y z : Str} {t u : Tok} {Q : Value → Shared → Prop} (hk : env.scope.kind = .function) (hl : env.kindOf "len" = some .globalImplicit)
    (hx : env.kindOf "fws" = some .local) (hx2 : env.kindOf "part" = some .local) (hn : s.heap.Ns env.locals m) (hv : m "fws" = some (.str y t)) (hv2 : m "part" = some (.str z u)) (hg : s.heap.Ns env.globals mg) (h0 : mg "len" = none) (hb : s.heap.Ns env.builtins mb) (h1 : mb "len" = some (.builtin "len"))
    (hfit : y.length ≤ 100000) (hfit2 : z.length ≤ 100000) (h : ∀ t' tk, Q (.int ((y.length : Int) + z.length) t') { s with toks := tk }) :
    wpAny (model prog w) A (eval (.BinOp (.Call (.Name "len" p1) [.Name "fws" p2] [] p3) .Add (.Call (.Name "len" p4) [.Name "part" p5] [] p6) p7) env) Q E s := by
  refine wpAny_BinOp (elt_len1 hk hl hx (by decide) hn hv hg h0 hb h1 hfit ?_)
  refine elt_len1 hk hl hx2 (by decide) hn hv2 hg h0 hb h1 hfit2 ?_
  exact wpAny_add_int (h _ _)
end
/-- the pairs that a list holds -/
noncomputable def PairsAt (h : Heap) : List Value → List (List Nat × List Nat) → Prop
  | [], [] => True
  | v :: vs, (a, b) :: r => (∃ T t u, v = .ref T ∧ h.IsTuple T #[.str (S a) t, .str (S b) u]) ∧ PairsAt h vs r
  | _, _ => False
theorem PairsAt.len {h : Heap} : ∀ {vs : List Value} {xs : List (List Nat × List Nat)}, PairsAt h vs xs → vs.length = xs.length
  | [], [], _ => rfl
  | [], _ :: _, h => h.elim
  | _ :: _, [], h => h.elim
  | _ :: vs, (_, _) :: xs, h => by rw [List.length_cons, List.length_cons, PairsAt.len h.2]
theorem PairsAt.get {h : Heap} : ∀ {vs : List Value} {xs : List (List Nat × List Nat)} (j : Nat), PairsAt h vs xs → j < vs.length → ∃ T a b t u, vs[j]? = some (.ref T) ∧ xs[j]? = some (a, b) ∧ h.IsTuple T #[.str (S a) t, .str (S b) u]
  | [], _, _, _, hj => absurd hj (by simp)
  | _ :: _, [], _, h, _ => h.elim
  | _ :: vs, (a, b) :: xs, 0, ⟨⟨T, t, u, e, q⟩, _⟩, _ => ⟨T, a, b, t, u, by simp [e], rfl, q⟩
  | _ :: vs, (_, _) :: xs, j + 1, ⟨_, h⟩, hj => by
    obtain ⟨T, a, b, t, u, e1, e2, q⟩ := PairsAt.get (vs := vs) (xs := xs) j h (by simpa using hj)
    exact ⟨T, a, b, t, u, by simpa using e1, by simpa using e2, q⟩
noncomputable def plen (p : List Nat × List Nat) : Int := (p.1.length : Int) + p.2.length
noncomputable def tlen (xs : List (List Nat × List Nat)) : Nat := (xs.map fun p => p.1.length + p.2.length).sum
theorem preSum_tlen (xs : List (List Nat × List Nat)) : ∀ n, n ≤ xs.length → preSum (fun i => ((xs[i]?).map plen).getD 0) n = (tlen (xs.take n) : Int)
  | 0, _ => by simp [preSum, tlen]
  | n + 1, h => by
    have e : xs[n]? = some xs[n] := by simp
    rw [preSum, preSum_tlen xs n (by omega)]
    unfold tlen
    rw [List.map_take, List.map_take, List.take_add_one, List.sum_append, List.getElem?_map, e]
    simp [plen]
end Mine
end
-- GX
section
open PySem PySem.W PyProof.Rows PySem.Spec PySem.Calls
set_option Elab.async false
set_option maxRecDepth 100000
set_option maxHeartbeats 4000000
namespace Mine
/-- a code's own table -/
noncomputable def TabW (tb : Obj) : Prop := ∃ ps, tb = tabObj ps ∧ TriplesOk ps.toList
theorem code_of {h : Heap} {c P : Addr} {ps : Array Value} {op : Obj} (x : CodeHd h c P) (hP : h.get? P = some op) (hd : op.data = .fields ps) (ht : TriplesOk ps.toList) : h.IsCode c P ps := by
  obtain ⟨o, vs, file, tf, flags, tg, inF, text, tt, e1, _, e3, _, f3, f4, f5, f6, f7, f11⟩ := x
  exact ⟨o, vs, file, tf, flags, tg, inF, text, tt, _, e1, e3, f3, f4, f5, f6, f7, hP, hd, ht, f11⟩
theorem gcodeX {M : Model} {A : Around} {E : Value → Shared → Prop} {s : Shared} {env : Env} {c P : Addr} {ps : Array Value} {pos : Pos} {qualname : Str} {scope : Scope} {Q : Value → Shared → Prop} (hc : env.code = .ref c) (hok : s.heap.IsCode c P ps) (htab : s.heap.TableAt c P ps)
    (hQ : ∀ code h' tk ps', Heap.ExtBut P s.heap h' → h'.IsCode c P ps' → h'.TableAt c P ps' → Q code { s with heap := h', toks := tk }) : wpAny M A (genexprCode env pos qualname scope) Q E s := by
  cases e : codeAmong pos ps.toList with
  | some cv => exact wpAny_genexprCode_hit hc hok e (hQ cv s.heap s.toks ps (Heap.ExtBut.refl _ _) hok htab)
  | none => exact wpAny_genexprCodeX hc hok htab e fun c' h' tk a b d f g i _ => hQ _ _ _ _ a f i
noncomputable abbrev pairObj (a b : List Nat) (t u : Tok) : Obj := { cls := .type "tuple", data := .seq #[.str (S a) t, .str (S b) u] }
/-- the pairs of a list, in the ledger -/
noncomputable def PairsIn (news : List (Addr × Obj)) : List Value → List (List Nat × List Nat) → Prop
  | [], [] => True
  | v :: vs, (a, b) :: r => (∃ T t u, v = .ref T ∧ (T, pairObj a b t u) ∈ news) ∧ PairsIn news vs r
  | _, _ => False
theorem PairsIn.at {h₀ h : Heap} {L : Addr} {news : List (Addr × Obj)} (N : News h₀ L h news) : ∀ {vs : List Value} {xs : List (List Nat × List Nat)}, PairsIn news vs xs → PairsAt h vs xs
  | [], [], _ => trivial
  | [], _ :: _, h => h.elim
  | _ :: _, [], h => h.elim
  | _ :: _, (_, _) :: _, ⟨⟨T, t, u, e, hm⟩, h⟩ => ⟨⟨T, t, u, e, _, (N _ hm).1, rfl, 0, rfl⟩, PairsIn.at N h⟩
theorem PairsIn.mono {news news' : List (Addr × Obj)} (hs : ∀ p ∈ news, p ∈ news') : ∀ {vs : List Value} {xs : List (List Nat × List Nat)}, PairsIn news vs xs → PairsIn news' vs xs
  | [], [], _ => trivial
  | [], _ :: _, h => h.elim
  | _ :: _, [], h => h.elim
  | _ :: _, (_, _) :: _, ⟨⟨T, t, u, e, hm⟩, h⟩ => ⟨⟨T, t, u, e, hs _ hm⟩, PairsIn.mono hs h⟩
theorem PairsIn.snoc {news : List (Addr × Obj)} {T : Addr} {a b : List Nat} {t u : Tok} (q : (T, pairObj a b t u) ∈ news) : ∀ {vs : List Value} {xs : List (List Nat × List Nat)}, PairsIn news vs xs → PairsIn news (vs ++ [.ref T]) (xs ++ [(a, b)])
  | [], [], _ => ⟨⟨T, t, u, rfl, q⟩, trivial⟩
  | [], _ :: _, h => h.elim
  | _ :: _, [], h => h.elim
  | _ :: _, (_, _) :: _, ⟨h1, h2⟩ => ⟨h1, PairsIn.snoc q h2⟩
theorem PairsAt.lens {h : Heap} {vs : List Value} {xs : List (List Nat × List Nat)} {j : Nat} {a b : List Nat} (hx : xs[j]? = some (a, b)) (hl : tlen xs ≤ 1000) : a.length + b.length ≤ 1000 := by
  have hm := List.mem_of_getElem? hx
  have : a.length + b.length ≤ tlen xs := by
    unfold tlen
    clear hx hl
    induction xs with
    | nil => cases hm
    | cons y ys ih =>
      rw [List.map_cons, List.sum_cons]
      rcases List.mem_cons.mp hm with rfl | hm
      · dsimp only; omega
      · have := ih hm; omega
  omega
/-- a generator whose items sum to total; it writes from B on alone -/
noncomputable def GenSum (prog : Program) (w : World) (A : Around) (a : Addr) (total : Int) (B : Nat) (s : Shared) : Prop :=
  ∃ (fp wr : List Addr) (G : Array GenState → Array GenState → Prop) (n : Nat) (P : Nat → Value → Prop) (St : Nat → Shared → Prop) (val : Nat → Int), WalksS prog w A.in1 a fp wr G n P St ∧ St 0 s ∧ (∀ b ∈ fp, b < s.heap.objs.size) ∧
    (∀ i v, P i v → ∃ t, v = .int (val i) t) ∧ preSum val n = total ∧ (∀ b ∈ wr, B ≤ b) ∧ B ≤ s.heap.objs.size ∧ (∀ g', G s.gens g' → AllBare s.gens → AllBare g')
theorem GenSum.frame {prog : Program} {w : World} {A : Around} {a : Addr} {total : Int} {B : Nat} {s : Shared} (x : GenSum prog w A a total B s) {h' : Heap} {tk : Nat} (ht : s.toks ≤ tk) (hk : ∀ b o, s.heap.get? b = some o → h'.get? b = some o) (hz : s.heap.objs.size ≤ h'.objs.size) :
    GenSum prog w A a total B { s with heap := h', toks := tk } := by
  obtain ⟨fp, wr, G, n, P, St, val, W, st, hf, hv, e, hw, hB, hg⟩ := x
  exact ⟨fp, wr, G, n, P, St, val, W, W.frame 0 s h' tk st ht fun b _ o e => hk b o e, fun b hb => Nat.lt_of_lt_of_le (hf b hb) hz, hv, e, hw, Nat.le_trans hB hz, hg⟩
section
variable {prog : Program} {w : World} {A : Around} {E : Value → Shared → Prop} {s : Shared} {h₀ : Heap} {L : Addr} {m mg mb : Str → Option Value} {news : List (Addr × Obj)} {K : Frag} {p : Program} {loose : List Str} {mean : ExcName → Option Value}
theorem sum_gen {a : Addr} {total : Int} {t0 : Tok} {Q : Value → Shared → Prop} {B : Nat} (F : Fr h₀ L s.heap m) (N : News h₀ L s.heap news) (G : AllBare s.gens) (X : GenSum prog w A a total B s) (hB : ∀ p ∈ news, p.1 < B) (hL : L < B) (h0 : ∀ b o, h₀.get? b = some o → b < B)
    (h : ∀ h' g' tk t', Fr h₀ L h' m → News h₀ L h' news → AllBare g' → Q (.int total t') ⟨h', g', s.drawn, tk, s.os⟩) : wpAny (model prog w) A (call (.builtin "sum") [.ref a, .int 0 t0]) Q E s := by
  obtain ⟨fp, wr, Gr, n, P, St, val, W, st, hf, hv, e, hw, hBs, hg⟩ := X
  refine call_sum2 (W.self 0 s _ _ st ⟨a, fp, wr, Gr, n, P, St, val, rfl, W, st, hf, hv, fun s' t' hm => ?_⟩)
  rw [e]
  have k : ∀ b o, b < B → s.heap.get? b = some o → s'.heap.get? b = some o := fun b o hb eb => hm.heap b o (fun hw' => Nat.lt_irrefl _ (Nat.lt_of_lt_of_le hb (hw b hw'))) eb
  have := h s'.heap s'.gens s'.toks t' ?_ (fun p hp => ⟨k _ _ (hB p hp) (N p hp).1, (N p hp).2⟩) (hg _ hm.gens G)
  · obtain ⟨hh, gg, dd, tt, oo⟩ := s'
    have e1 := hm.drawn
    have e2 := hm.os
    dsimp only at e1 e2 this ⊢
    rw [e1, e2]; exact this
  · obtain ⟨oL, eL, kL⟩ := ns_obj F.ns
    exact ⟨kL _ (k _ _ hL eL), fun b o eb => k _ _ (h0 b o eb) (F.keep b o eb), F.above⟩
theorem gen_lens {env : Env} {x dx : Addr} {C : Addr} {c : Nat} {vs : Array Value} {xs : List (List Nat × List Nat)} {tb : Obj} {iter : Expr} {pa pb pt p1 p2 p3 p4 p5 p6 p7 pos : Pos} {kt : Nat} {scope : Scope} {Q : Value → Shared → Prop}
    (hh : A.handled = none) (hroom : A.depth < recursionLimit) (F : Fr h₀ L s.heap m) (N : News h₀ L s.heap ((162, tb) :: (x, listInst C dx vs c) :: news)) (h162 : ∀ p ∈ (x, listInst C dx vs c) :: news, p.1 ≠ 162) (hdx : ∃ od, (dx, od) ∈ news) (K₀ : K.In h₀) (T : Top p loose mean mg mb h₀) (Cd : CodeHd h₀ 166 162) (hT : TabW tb) (G : AllBare s.gens) (P : PairsIn news vs.toList xs)
    (hlen : tlen xs ≤ 1000) (hcode : env.code = .ref 166) (hge : env.globals = mainGlobals) (hf : findIn K (.ref C) "__iter__" = some (some (.builtin "list.__iter__"))) (hl : mroIn K C (.type "list") = some true) (hlen0 : nsIn K mainGlobals "len" = some none) (hlenb : bootBuiltins "len" = some (.builtin "len"))
    (hco : scope.isCoroutine = false) (hclos : closureFor scope env = pure []) (hcell : ∀ y ∈ scope.names, y.2 ≠ .cell) (h0 : scope.names.lookup (".0" : Str) = some NameKind.local) (hxa : scope.names.lookup ("fws" : Str) = some .local) (hxb : scope.names.lookup ("part" : Str) = some .local) (hxl : scope.names.lookup ("len" : Str) = some .globalImplicit) (hkind : scope.kind = .function)
    (hs : ∀ x, genFold iter env x = pure x) (hIter : ∀ {Q : Value → Shared → Prop}, Q (.ref x) s → wpAny (model prog w) A (eval iter env) Q E s)
    (h : ∀ (a : Addr) tb' h' g' tk, TabW tb' → AllBare g' → Fr h₀ L h' m → News h₀ L h' ((162, tb') :: (x, listInst C dx vs c) :: news) → GenSum prog w A a (tlen xs : Nat) s.heap.objs.size ⟨h', g', s.drawn, tk, s.os⟩ → Q (.ref a) ⟨h', g', s.drawn, tk, s.os⟩) :
    wpAny (model prog w) A (eval (.GeneratorExp (.BinOp (.Call (.Name "len" p1) [.Name "fws" p2] [] p3) .Add (.Call (.Name "len" p4) [.Name "part" p5] [] p6) p7) [⟨.Tuple [.Name "fws" pa, .Name "part" pb] kt pt, iter, [], 0⟩] scope pos) env) Q E s := by
  obtain ⟨ps, rfl, htr⟩ := hT
  obtain ⟨od, hod⟩ := hdx
  have hx := N (x, listInst C dx vs c) (.tail _ (.head _))
  have I : InstAt s.heap x (listInst C dx vs c) C (some od) := ⟨hx.1, rfl, rfl, (N _ (.tail _ (.tail _ hod))).1⟩
  refine wpAny_GeneratorExp_walksQTD (cl := []) hh hco hclos hcell h0 hxa hxb (by decide) hkind hroom (hIter (pyIter_L (K₀.keeps F.keep) I hf hl ?_)) hs
  -- behind iter
  generalize hI : s.heap.objs.size = It
  generalize hH : s.heap.push { cls := .type "list_iterator", data := .fields #[.ref x, .int 0 0] } = H1
  have F1 : Fr h₀ L H1 m := hH ▸ Fr.push F _
  have N1 : News h₀ L H1 ((162, tabObj ps) :: (x, listInst C dx vs c) :: news) := fun q hq => ⟨hH ▸ Heap.get?_push_of_some _ (N q hq).1, (N q hq).2⟩
  have e1 : H1.get? It = some { cls := .type "list_iterator", data := .fields #[.ref x, .int 0 0] } := by rw [← hH, ← hI]; exact Heap.get?_push_size _ rfl
  have z1 : H1.objs.size = It + 1 := by rw [← hH, Heap.size_push, hI]
  have lt0 : ∀ b o, s.heap.get? b = some o → b < It := fun b o e => hI ▸ Heap.lt_size e
  refine ⟨T.nolimit.keeps F1.keep, ?_⟩
  have hI162 : It ≠ 162 := Nat.ne_of_gt (lt0 _ _ (N _ (.head _)).1)
  have hIx : It ≠ x := Nat.ne_of_gt (lt0 _ _ hx.1)
  have hx162 : x ≠ 162 := h162 _ (.head _)
  refine gcodeX hcode (code_of (Cd.keeps F1.keep) (N1 _ (.head _)).1 rfl htr) ((Cd.keeps F1.keep).tab (N1 _ (.head _)).1) (fun code h2 tk2 ps' hx2 hc2 ht2 => ?_)
  have hop : h2.get? 162 = some (tabObj ps') := ht2.2
  have htr2 : TriplesOk ps'.toList := by
    obtain ⟨_, _, _, _, _, _, _, _, _, op, _, _, _, _, _, _, _, a, b, d, _⟩ := hc2
    exact d
  have hN162 := N _ (.head _)
  have F2 : Fr h₀ L h2 m := fr_butKeep F1 ⟨hN162.2.1, hN162.2.2⟩ fun b o hb e => hx2 b o hb e
  have N2 : News h₀ L h2 ((162, tabObj ps') :: (x, listInst C dx vs c) :: news) := by
    intro q hq
    rcases List.mem_cons.mp hq with rfl | hq
    · exact ⟨hop, hN162.2⟩
    · exact ⟨hx2 _ _ (h162 q hq) (N1 q (.tail _ hq)).1, (N1 q (.tail _ hq)).2⟩
  have e2 : h2.get? It = some { cls := .type "list_iterator", data := .fields #[.ref x, .int 0 0] } := hx2 _ _ hI162 e1
  have old2 : ∀ b o, b ≠ 162 → s.heap.get? b = some o → h2.get? b = some o := fun b o hb e => hx2 _ _ hb (hH ▸ Heap.get?_push_of_some _ e)
  obtain ⟨bm, ob, b1, b2, b3, b4, b5, b6⟩ := T.bmain
  refine wpAny_builtinsFor (m := mg) (by rw [hge]; exact T.g.keeps F2.keep) b1 b2 (F2.keep _ _ b3) b4 b5 b6 ?_
  have P2 : PairsAt h2 vs.toList xs := PairsIn.at (news_tl (news_tl N2)) P
  have ex : ∀ j, ∃ p : Addr × Array Value, j < vs.size → ∃ a b t u, vs[j]? = some (.ref p.1) ∧ xs[j]? = some (a, b) ∧ h2.IsTuple p.1 p.2 ∧ p.2 = #[.str (S a) t, .str (S b) u] ∧ p.1 < h2.objs.size ∧ p.1 ≠ It := by
    intro j
    by_cases hj : j < vs.size
    · obtain ⟨T', a, b, t, u, q1, q2, q3⟩ := PairsAt.get j P2 (by simpa using hj)
      rw [Array.getElem?_toList] at q1
      refine ⟨(T', #[.str (S a) t, .str (S b) u]), fun _ => ⟨a, b, t, u, q1, q2, q3, rfl, ?_, ?_⟩⟩
      · obtain ⟨o, ho, _⟩ := q3
        exact Heap.lt_size ho
      · obtain ⟨o, ho, hc, _⟩ := q3
        rintro rfl
        rw [e2] at ho
        rw [← Option.some.inj ho] at hc
        exact absurd hc (by simp)
    · exact ⟨(0, #[]), fun h => absurd h hj⟩
  obtain ⟨Ts, vals, at'⟩ : ∃ (Ts : Nat → Addr) (vals : Nat → Array Value), ∀ j, j < vs.size → ∃ a b t u, vs[j]? = some (.ref (Ts j)) ∧ xs[j]? = some (a, b) ∧ h2.IsTuple (Ts j) (vals j) ∧ vals j = #[.str (S a) t, .str (S b) u] ∧ (Ts j) < h2.objs.size ∧ Ts j ≠ It := by
    exact ⟨fun j => (Classical.choose (ex j)).1, fun j => (Classical.choose (ex j)).2, fun j => Classical.choose_spec (ex j)⟩
  have W₀ : ∀ A' : Around, A'.handled = none → WalksU prog w A' It _ _ _ _ _ _ := fun A' hA => walks_pairs (prog := prog) (w := w) hA It x (Ne.symm hIx) vs Ts vals (fun j hj => (at' j hj).choose_spec.choose_spec.choose_spec.choose_spec.1) (fun j hj => by obtain ⟨_, _, _, _, _, _, _, _, _, q⟩ := at' j hj; exact q)
  have hz2 : It < h2.objs.size := Heap.lt_size e2
  refine ⟨It, _, _, vs.size, _, _, _, fun _ => true, fun i v => ∃ a b, xs[i]? = some (a, b) ∧ ∃ t, v = .int ((a.length : Int) + b.length) t, rfl, W₀, ?g1, ?g2, ?g3, T.nolimit.keeps F2.keep, ?g4, ?g5, ?g6⟩
  case g1 =>
    rintro i vals' ⟨hi, rfl⟩
    obtain ⟨a, b, t, u, _, _, _, hv, _⟩ := at' i hi
    exact ⟨_, _, hv⟩
  case g2 =>
    refine ⟨⟨_, e2, rfl, rfl⟩, ⟨_, c, (N2 _ (.tail _ (.head _))).1, rfl⟩, fun k hk => ?_⟩
    obtain ⟨a, b, t, u, _, _, q, _⟩ := at' k hk
    exact q
  case g3 =>
    intro b hb
    simp only [List.mem_cons, List.mem_map, List.mem_range] at hb
    rcases hb with rfl | rfl | ⟨k, hk, rfl⟩
    · exact hz2
    · exact Heap.lt_size (N2 _ (.tail _ (.head _))).1
    · obtain ⟨a, b, t, u, _, _, _, _, q, _⟩ := at' k hk; exact q
  case g4 =>
    intro q
    rw [List.mem_singleton] at q
    obtain ⟨_, hn, _⟩ := T.nolimit.keeps F.keep
    obtain ⟨oo, eo, _⟩ := ns_obj hn
    exact absurd (lt0 _ _ eo) (by rw [q]; exact Nat.lt_irrefl _)
  case g5 =>
    intro href hk
    have hgk : ∀ (s₂ : Shared), (∀ b ∈ List.range h2.objs.size, b ∉ [It] → ∀ o, href.get? b = some o → s₂.heap.get? b = some o) → ∀ b o, h₀.get? b = some o → s₂.heap.get? b = some o := by
      intro s₂ h2k b o e
      have e3 := F.keep _ _ e
      have hb := lt0 _ _ e3
      refine h2k b (List.mem_range.mpr (Nat.lt_trans hb hz2)) (by simpa using Nat.ne_of_lt hb) o (hk _ _ (F2.keep _ _ e))
    constructor
    · intro A' E' i va vb s₂ m₂ _ _ _ _ _ _ _ _
      rw [List.forIn_nil]
      exact wpAny_pure ⟨rfl, s₂.heap, s₂.toks, rfl, fun _ _ e => e⟩
    · rintro A' E' i va vb s₂ m₂ _ _ _ ⟨hi, hv⟩ _ hn hm1 hm2 hk2
      obtain ⟨a, b, t, u, _, hxi, _, hv2, _⟩ := at' i hi
      rw [hv2] at hv
      obtain ⟨rfl, rfl⟩ : va = .str (S a) t ∧ vb = .str (S b) u := by simpa using congrArg Array.toList hv
      have hl2 := PairsAt.lens (h := h2) (vs := []) hxi hlen
      have gk := hgk s₂ hk2
      refine elt_lens (mg := mg) (mb := mb) (by simp [genEnv, hkind]) (by exact hxl) (by exact hxa) (by exact hxb) hn hm1 hm2 (by show s₂.heap.Ns env.globals mg; rw [hge]; exact T.g.keeps gk) (mg_none_of K₀ T.g hlen0) (T.b.keeps gk) ((T.builtins _ (by decide +kernel)).trans hlenb) (by rw [S_len]; omega) (by rw [S_len]; omega) ?_
      intro t' tk'
      refine ⟨⟨a, b, hxi, t', ?_⟩, s₂.heap, tk', rfl, fun _ _ e => e⟩
      rw [S_len, S_len]
  case g6 =>
    intro a h₅ tk gs hbare ha hz5 hk5 W st
    have F5 : Fr h₀ L h₅ m := by
      obtain ⟨oL, eL, kL⟩ := ns_obj F2.ns
      exact ⟨kL _ (hk5 _ _ eL), fun b o e => hk5 _ _ (F2.keep _ _ e), F2.above⟩
    refine h a (tabObj ps') h₅ (s.gens.push gs) tk ⟨_, rfl, htr2⟩ ?_ F5 (fun q hq => ⟨hk5 _ _ (N2 q hq).1, (N2 q hq).2⟩) ?_
    · intro y hy
      rcases Array.mem_push.mp hy with hy | rfl
      · exact G y hy
      · exact hbare
    · have hpass : passing (fun _ => true) vs.size 0 = List.range vs.size := by simp [passing]
      have hvx : vs.size = xs.length := by have := PairsAt.len P2; simpa using this
      refine ⟨_, _, _, _, _, _, fun i => ((xs[i]?).map plen).getD 0, W.in4_1, st, ?_, ?_, ?_, ?_, ?_, ?_⟩
      · intro b hb
        simp only [List.mem_cons, List.mem_range] at hb
        show b < h₅.objs.size
        rw [hz5]
        rcases hb with rfl | rfl | hb
        · exact Nat.lt_succ_self _
        · exact Nat.lt_succ_of_lt ha
        · exact Nat.lt_succ_of_lt (Nat.lt_trans hb ha)
      · rintro i v ⟨j, hj, a', b', e, t, rfl⟩
        rw [hpass] at hj
        obtain ⟨_, rfl⟩ : j < vs.size ∧ j = i := by
          by_cases hn : i < vs.size
          · rw [List.getElem?_range hn] at hj
            have := Option.some.inj hj; omega
          · rw [List.getElem?_eq_none (by simpa using hn)] at hj
            cases hj
        exact ⟨t, by show _ = Value.int (((xs[j]?).map plen).getD 0) t; rw [e]; rfl⟩
      · rw [hpass, List.length_range, hvx, preSum_tlen xs _ (Nat.le_refl _), List.take_length]
      · intro b hb
        rw [hI]
        simp only [List.mem_cons, List.not_mem_nil, or_false] at hb
        rcases hb with rfl | rfl
        · exact Nat.le_of_lt hz2
        · exact Nat.le_refl _
      · show s.heap.objs.size ≤ h₅.objs.size
        rw [hz5, hI]
        exact Nat.le_succ_of_le (Nat.le_of_lt (Nat.lt_trans hz2 ha))
      · intro g' hg ha
        exact GenOnlyQ.bare hg ha
end
end Mine
end
-- SD
section
open PySem PySem.W PyProof.Rows PySem.Spec PySem.Calls
open Builtin Builtin.ObjectAttr Builtin.Getset_descriptor
set_option Elab.async false
set_option maxRecDepth 100000
set_option maxHeartbeats 4000000
namespace Mine
theorem refuse_list (self : Value) (C : Addr) : refuseLoop self "__setattr__" [.ref C, .type "list", .type "object"] = pure () := by
  rw [refuseLoop_ref]; kernel_rfl
section
variable {prog : Program} {w : World} {A : Around} {K : Frag} {C x : Addr} {s : Shared} {h₀ : Heap} {L : Addr} {m : Str → Option Value} {news : List (Addr × Obj)} {R : Result → Shared → Prop} {E : Value → Shared → Prop}
theorem set_L {ox : Obj} {dx : Addr} {name : Str} {v : Value} {es es' : List DictEntry} {n n' : Nat} {cd : ClassData} {news' : List (Addr × Obj)} {Q : Unit → Shared → Prop} (F : Fr h₀ L s.heap m) (X₀ : K.In h₀) (N : News h₀ L s.heap news) (I : InstAt s.heap x ox C (some (dictOf es n))) (hd : ox.dict = some dx)
    (hs : findIn K (.ref C) "__setattr__" = some (some (.builtin "object.__setattr__"))) (hc : clsIn K C = some cd) (hm : cd.mro = [.ref C, .type "list", .type "object"]) (hd' : cd.hasDict = true) (ha : findIn K (.ref C) name = some none) (hl : (getL name es).isSome = true)
    (e : (putL name (PyData.keyHash w.params name) (.str name (s.toks + 1)) v es, putN name es n) = (es', n')) (U : Upd dx (dictOf es n) (dictOf es' n') news news') (hz : es'.length ≤ 1000)
    (h : ∀ h', Fr h₀ L h' m → News h₀ L h' news' → Q () { s with heap := h', toks := s.toks + 2 }) :
    wpAny (model prog w) A (setAttr (.ref x) name v) Q E s := by
  obtain ⟨pre, post, rfl, rfl, h1, h2⟩ := U.split
  obtain ⟨e1, e2⟩ := Prod.mk.inj e
  have X := X₀.keeps F.keep
  refine set_plain X I hs ?_
  have SF := PySem.F.store_object
  have hmro : Looks (model prog w) s.heap (mroOf (.ref C)) cd.mro := (looks_clsIn X hc).andThen .now
  have sub : Looks (model prog w) s.heap (isInstance (.ref x) (.type "object")) true := I.type.andThen (looks_mroIn X (by unfold mroIn; rw [hc, Option.bind_some, hm]; rfl))
  refine codeAny_call_builtin SF.slot.plain SF.entry (@check_slot (model prog w) _ _ { s with toks := s.toks + 1 } "object.__setattr__" "object" "__setattr__" (.ref x) [.str name s.toks, v] [] _ SF.kind SF.split sub (SF.args (.ref x) (.str name s.toks) v) ?_)
  have L3 : Looks (model prog w) s.heap (storeTaker? none) none := .now
  rw [osa_eq, refuse_eq]
  refine wpAny_bind (wpAny_bind (I.type.here (s := { s with toks := s.toks + 1 }) (wpAny_bind (hmro.here (s := { s with toks := s.toks + 1 }) ?_))))
  rw [hm, refuse_list]
  refine wpAny_pure (wpAny_bind (I.type.here (s := { s with toks := s.toks + 1 }) (wpAny_bind ((looks_findIn X ha).here (s := { s with toks := s.toks + 1 }) (wpAny_bind (L3.here (s := { s with toks := s.toks + 1 }) ?_))))))
  have ep : Obj.putName name (PyData.keyHash w.params name) (.str name (s.toks + 1)) v (dictOf es n) = dictOf es' n' := by rw [putName_dict, e1, e2]
  obtain ⟨U1, U2⟩ := news_upd (f := Obj.putName name (PyData.keyHash w.params name) (.str name (s.toks + 1)) v) F N h1 h2 ep rfl
  have D := (N (dx, dictOf es n) (by simp)).1
  have D' := (U2 (dx, dictOf es' n') (by simp)).1
  obtain ⟨hx, hcl, hn, -⟩ := I
  obtain ⟨oc, odi, oda, osl⟩ := ox
  dsimp only at hcl hd
  subst hcl hd
  refine wpAny_bind (wpAny_pure (wpAny_bind (wpAny_bind (wpAny_loadPart hx (wpAny_bind ((looks_clsIn X hc).here (s := { s with toks := s.toks + 1 }) ?_))))))
  rw [hd']
  refine wpAny_pure (a := some dx) (wpAny_bind (wpAny_pure (wpAny_bind ?_)))
  unfold nsSet
  refine wpAny_bind (wpAny_bind (wpAny_askSetting (wpAny_pure (wpAny_bind (wpAny_mkText (wpAny_bind (wpAny_loadPart D ?_)))))))
  dsimp only
  have hl' : (lookIn name (dictOf es n)).isSome = true := by rw [lookIn_dict]; exact hl
  unfold lookIn at hl'
  dsimp only at hl'
  have c : (!es.toArray.any (·.key.isStr name) && es.toArray.any (·.refKey)) = false := by
    rw [← Array.any_toList, ← Array.any_toList]
    split at hl'
    · rename_i en he
      rw [List.any_eq_true.mpr ⟨en, List.mem_of_find?_eq_some he, List.find?_some he⟩]; rfl
    · split at hl'
      · cases hl'
      · rename_i z; rw [Bool.not_eq_true] at z; rw [z, Bool.and_false]
  rw [aRefKeyMayBeTheName_at, c]
  refine wpAny_updatePart D ?_
  refine wpAny_bind (wpAny_lookBehind D' (pastItsLine_dict (by rw [List.size_toArray, sizeLine_eq]; omega)) ?_)
  exact wpAny_pure (h _ U1 U2)
end
end Mine
end
-- SX
section
open PySem PySem.W PyProof.Rows PySem.Spec PySem.Calls
set_option Elab.async false
set_option maxRecDepth 100000
set_option maxHeartbeats 4000000
namespace Mine
section
variable {prog : Program} {w : World} {A : Around} {E : Value → Shared → Prop} {s : Shared} {h₀ : Heap} {L : Addr} {m : Str → Option Value} {news : List (Addr × Obj)}
theorem callWith_wr {q x : Addr} {pos : Pos} {env : Env} {Q : Value → Shared → Prop} (N : News h₀ L s.heap news) (hq : (q, wrapObj x) ∈ news) (h : wpAny (model prog w) A (call (.ref q) []) Q E s) :
    wpAny (model prog w) A (callWith pos (.ref q) [] (backTo pos (starEach [] env)) []) Q E s := by
  have hk : ∀ h' : Heap, h'.get? q = some (wrapObj x) → ∃ k, (k = Keeper.frame ∨ k = Keeper.machine ∨ k = Keeper.boundFrame) ∧ Looks (model prog w) h' (keeperOf (.ref q)) k :=
    fun h' X => ⟨.machine, .inr (.inl rfl), (Looks.ld (part := none) X).andThen .now⟩
  exact callWith_of (P := fun h' => h'.get? q = some (wrapObj x)) rfl hk (evalArgs_nil3 ⟨(N _ hq).1, h⟩)
end
noncomputable abbrev hOf {h₀ h : Heap} {L : Addr} {m : Str → Option Value} (_ : Fr h₀ L h m) : Heap := h
end Mine
end
-- SY
section
open PySem PySem.W PyProof.Rows PySem.Spec PySem.Calls
open Builtin Builtin.ObjectAttr
set_option Elab.async false
set_option maxRecDepth 100000
set_option maxHeartbeats 4000000
namespace Mine
theorem entry_lga : entryFor table "list.__getattribute__" = some Builtin.«object.__getattribute__» :=
  entryFor_alias (id' := "object.__getattribute__") (by kernel_rfl) (by first | rfl | decide +kernel | (unfold String.splitOn; simp +decide [String.splitOnAux])) (by decide +kernel) (by kernel_rfl)
theorem kind_lga : builtinKind "list.__getattribute__" = some .slot := by decide +kernel
theorem split_lga : splitId "list.__getattribute__" = some ("list", "__getattribute__") := by decide +kernel
theorem canon_lga : (Manifest.canonical "list.__getattribute__" != "object.__getattribute__") = false := by decide +kernel
section
variable {prog : Program} {w : World} {A : Around} {E : Value → Shared → Prop} {s : Shared} {h₀ : Heap} {L : Addr} {m : Str → Option Value} {news : List (Addr × Obj)} {K : Frag} {x C : Addr} {ox : Obj}
theorem get_L {es : List DictEntry} {n : Nat} {name : Str} {v : Value} {expr : Bool} {attr : Option Value} {Q : Value → Shared → Prop} (F : Fr h₀ L s.heap m) (X₀ : K.In h₀) (I : InstAt s.heap x ox C (some (dictOf es n)))
    (hga : findIn K (.ref C) "__getattribute__" = some (some (.builtin "list.__getattribute__"))) (hk : findIn K (.ref C) "__getattr__" = some none) (hl : mroIn K C (.type "list") = some true) (hh : hasDictIn K C = true)
    (ha : findIn K (.ref C) name = some attr) (hn : noGet K attr = true) (hv : getL name es = some (some v)) (hi : handedIn v = true) (h : Q v { s with toks := s.toks + 1 }) :
    wpAny (model prog w) A (getAttr (.ref x) name expr) Q E s := by
  have X := X₀.keeps F.keep
  have hf : findObj K C (some (dictOf es n)) name = some (.value v) := findObj_own hh ha hn hv
  have L0 := I.type (M := model prog w)
  have L1 := looks_find (M := model prog w) X I hf
  have hI : Looks (model prog w) s.heap (isInstance (.ref x) (.type "list")) true := I.type.andThen (looks_mroIn X hl)
  obtain ⟨hh', g, d, t, os⟩ := s
  unfold getAttr getAttrBy
  refine wpAny_bind (wpAny_mkText (wpAny_holding (wpAny_bind (L0.at (wpAny_bind ((looks_findIn X hga).at ?_))))))
  dsimp only
  rw [show (onTheHeap (.ref C) && Value.builtin "list.__getattribute__" == Value.builtin "object.__getattribute__") = false from by rw [show (Value.builtin "list.__getattribute__" == Value.builtin "object.__getattribute__") = false from by decide +kernel, Bool.and_false], if_neg (by decide)]
  unfold getAttrByItsOwn hookBefore
  rw [if_pos (show onTheHeap (.ref C) = true from rfl)]
  refine wpAny_bind ((looks_findIn X hk).at (wpAny_bind (wpAny_attempt (wpAny_holding ?_))))
  unfold callGetattribute
  rw [show (expr && onTheHeap (Value.builtin "list.__getattribute__")) = false from Bool.and_false _, if_neg (by decide)]
  unfold boundAndCalled
  rw [PySem.F.slot_list_getattribute.bind]
  refine wpAny_bind (wpAny_pure ?_)
  show wpAny _ _ (call (.builtin "list.__getattribute__") [.ref x, .str name t]) _ _ _
  refine wpAny_call ?_
  refine codeAny_call_builtin PySem.F.slot_list_getattribute.plain entry_lga ?_
  refine @check_slot (model prog w) _ _ _ "list.__getattribute__" "list" "__getattribute__" (.ref x) [.str name t] [] _ kind_lga split_lga hI (PySem.F.args_list_getattribute_2 (.ref x) (.str name t)) ?_
  unfold Builtin.«object.__getattribute__»
  refine wpAny_bind (wpAny_pure (wpAny_bind (wpAny_pure (wpAny_bind (L0.at (wpAny_bind (L1.at ?_)))))))
  refine wpAny_pure ?_
  show wpAny _ _ (handedOut v) _ _ _
  rw [handedOut_of hi]; exact wpAny_pure h
theorem method_L {es : List DictEntry} {n : Nat} {name : Str} {f : Value} {pl : Sem Bool} {Q : Value × List Value → Shared → Prop} (X₀ : K.In h₀) (F : Fr h₀ L s.heap m) (I : InstAt s.heap x ox C (some (dictOf es n)))
    (hga : findIn K (.ref C) "__getattribute__" = some (some (.builtin "list.__getattribute__"))) (hk : findIn K (.ref C) "__getattr__" = some none) (hf : findIn K (.ref C) name = some (some f)) {T : Value} (ht : typeIn K f = some T) (hT : T = .type "method_descriptor" ∨ T = .type "function") (hl : getL name es = some none) (h : Q (f, [.ref x]) s) :
    wpAny (model prog w) A (getMethod (.ref x) name pl) Q E s := by
  have X := X₀.keeps F.keep
  unfold getMethod specialOf
  refine wpAny_bind (wpAny_bind (I.type.here ((looks_findIn X hga).here ?_)))
  dsimp only
  rw [canon_lga, if_neg (by decide)]
  refine wpAny_bind (wpAny_bind (I.type.here ((looks_findIn X hk).here ?_)))
  refine wpAny_bind (wpAny_bind (I.type.here ((looks_findIn X hf).here (wpAny_bind ((looks_typeIn X ht).here ?_)))))
  have hT2 : ¬ ((T != .type "function" && T != .type "method_descriptor" && T != .type "wrapper_descriptor") = true) := by
    rcases hT with rfl | rfl <;> decide +kernel
  rw [if_neg hT2]
  refine wpAny_bind (wpAny_loadPart I.at_ ?_)
  have hd := I.dict
  cases e : ox.dict with
  | none => exact wpAny_bind (wpAny_rule (wpAny_pure h))
  | some dx =>
    rw [e] at hd
    refine wpAny_bind (wpAny_bind (wpAny_loadPart hd ?_))
    have hs : lookIn name (dictOf es n) = some none := by rw [lookIn_dict, hl]
    rw [nsLook_of hs]
    exact wpAny_pure (wpAny_bind (wpAny_rule (wpAny_pure h)))
end
end Mine
end
-- FM
section
open PySem PySem.W PyProof.Rows PySem.Spec PySem.Calls
set_option Elab.async false
set_option maxRecDepth 100000
namespace Mine
structure Fmt where
  x : Nat
  dx : Nat
  fm : Nat
  df : Nat
  ln : Nat
  k : Nat → Tok
noncomputable def Fmt.Ord (φ : Fmt) : Prop := φ.df < φ.fm ∧ φ.fm < φ.ln ∧ φ.ln < φ.dx ∧ φ.dx < φ.x ∧ 162 < φ.df
noncomputable def FmtTl (w : World) (φ : Fmt) (news : List (Addr × Obj)) : List (Addr × Obj) := (φ.fm, instObj 116 φ.df) ::
    (φ.df, dictOf [dE w "_maxlen" (φ.k 2) (.int 1000 (φ.k 3)), dE w "_continuation_ws" (φ.k 4) (.str " " (φ.k 5)), dE w "_continuation_ws_len" (φ.k 6) (.int 1 (φ.k 7)), dE w "_splitchars" (φ.k 8) (.str "" (φ.k 9)), dE w "_lines" (φ.k 10) (.ref φ.ln), dE w "_current_line" (φ.k 11) (.ref φ.x)] 6) :: (φ.ln, listOf #[] 0) :: news
/-- the formatter, what it has laid -/
noncomputable def FmtNews (w : World) (φ : Fmt) (tb : Obj) (vs : Array Value) (c : Nat) (news : List (Addr × Obj)) : List (Addr × Obj) :=
  (162, tb) :: (φ.x, listInst 200 φ.dx vs c) :: (φ.dx, dictOf [dE w "_initial_size" (φ.k 0) (.int 0 (φ.k 1))] 1) :: FmtTl w φ news
end Mine
end
-- E_len
section
open PySem PySem.W PyProof.Rows PySem.Spec PySem.Calls
set_option Elab.async false
set_option maxRecDepth 100000
set_option maxHeartbeats 16000000
namespace Mine
theorem c_len {w : World} {p : Program} {loose : List Str} {mean : ExcName → Option Value} {mg mb : Str → Option Value} {news : List (Addr × Obj)} {x dx c : Nat} {t1 t2 : Tok} {vs : Array Value} {xs : List (List Nat × List Nat)} (hsz : vs.size ≤ 1000) {tb : Obj} :
  ∀ (cn : Str) (nm : List (Str × NameKind)) (mr : List (Str × Const)) (a : Addr) (ccd : Value) (cl : List (Str × Addr)) (outer : List Env) (A₀ : Around) (base h₀ : Heap) (L : Addr) (m : Str → Option Value) (s : Shared) (Q E : Value → Shared → Prop),
    Below A₀ base outer h₀ → Fr h₀ L s.heap m → (hd.heap_1 w.params).In h₀ → News h₀ L s.heap ((162, tb) :: (x, listInst 200 dx vs c) :: (dx, dictOf [dE w "_initial_size" t1 (.int 0 t2)] 1) :: news) → Top p loose mean mg mb h₀ → CodeHd base 166 162 → TabW tb → AllBare s.gens → PairsIn news vs.toList xs → tlen xs ≤ 1000 → x ≠ 162 → dx ≠ 162 → (∀ p ∈ news, p.1 ≠ 162) →
    (∀ (tb' : Obj) (t : Tok) (h' : Heap) (g' : Array GenState) (tk' : Nat), TabW tb' → AllBare g' → Fr h₀ L h' m → News h₀ L h' ((162, tb') :: (x, listInst 200 dx vs c) :: (dx, dictOf [dE w "_initial_size" t1 (.int 0 t2)] 1) :: news) → Q (.int (tlen xs : Nat) t) ⟨h', g', s.drawn, tk', s.os⟩) →
      wpAny (model PySem.Challenge.rw_wu0094_01.row.prog w) (ktrTop 700 5000 (some []) cn (fsc nm mr) L a ccd cl outer) (call (.ref 167) [.ref x]) Q E s := by
  k_fill
  k_with_none
  (k_with "getAttr ref" => (k_here; k_dflt (refine' get_L (C := 200) ?k1 ?k2 ?k3 ?k4 ?k5 ?k6 ?k7 ?k8 ?k9 ?k10 ?k11 ?_; (case k1 => k_asm); (case k2 => k_asm); (case k3 => k_inst); (case k4 => k_is); (case k5 => k_is); (case k6 => k_is); (case k7 => k_is); (case k8 => k_is); (case k9 => k_is); (case k10 => k_get); (case k11 => k_handed); k_whole)))
  intro cn nm mr a ccd cl outer A₀ base h₀ L m s Q E B F K N TT C hT G P hlen hx1 hx2 h162 hret
  refine wpAny_call ?_
  k_dflt k_enter
  (k_with "eval GeneratorExp" => refine halt ?_)
  k_steps
  refine unhalt ?_
  rename Fr _ _ _ _ => F1
  rename News _ _ _ _ => N1
  rename Below _ _ _ _ => B1
  rename Frag.In _ _ => K1
  rename Top _ _ _ _ _ _ => T1
  have C1 : CodeHd _ 166 162 := C.keeps B1.stays
  refine gen_lens (K := hd.heap_1 w.params) (C := 200) (x := x) (dx := dx) (vs := vs) (c := c) (xs := xs) rfl (by k_room) F1 N1 ?a1 ⟨_, .head _⟩ K1 T1 C1 hT G (P.mono fun p hp => .tail _ hp) hlen rfl rfl ?a2 ?a3 ?a4 (by boot_by_name) rfl rfl (by decide) rfl rfl rfl rfl rfl (by intro _; rfl) (fun hq => ld F1 rfl hq) ?a5
  case a1 =>
    intro p hp
    simp only [List.mem_cons] at hp
    rcases hp with rfl | rfl | hp
    · exact hx1
    · exact hx2
    · exact h162 p hp
  case a2 => k_is
  case a3 => k_is
  case a4 => k_is
  intro ga tb' h8 g8 tk8 hT8 G8 F8 N8 X8
  dsimp only at X8 ⊢
  generalize hB8 : Array.size _ = B8 at X8
  (k_with "call builtin:sum" => refine halt ?_)
  k_steps
  refine unhalt ?_
  k_with_none
  (k_with "getAttr ref" => (k_here; k_dflt (refine' get_L (C := 200) ?k1 ?k2 ?k3 ?k4 ?k5 ?k6 ?k7 ?k8 ?k9 ?k10 ?k11 ?_; (case k1 => k_asm); (case k2 => k_asm); (case k3 => k_inst); (case k4 => k_is); (case k5 => k_is); (case k6 => k_is); (case k7 => k_is); (case k8 => k_is); (case k9 => k_is); (case k10 => k_get); (case k11 => k_handed); k_whole)))
  have lt1 : ∀ b o, (hOf F1).get? b = some o → b < B8 := fun b o e => hB8 ▸ Heap.lt_size e
  refine sum_gen F8 N8 G8 (X8.frame (Nat.le_succ _) (fun _ _ e => e) (Nat.le_refl _)) ?b1 ?b2 (fun b o e => lt1 b o (F1.keep b o e)) ?b3
  case b1 =>
    intro p hp
    rcases List.mem_cons.mp hp with rfl | hp
    · exact lt1 _ _ (N1 _ (.head _)).1
    · exact lt1 _ _ (N1 _ (.tail _ hp)).1
  case b2 =>
    obtain ⟨oL, eL, _⟩ := ns_obj F1.ns
    exact lt1 _ _ eL
  intro h9 g9 tk9 t9 F9 N9 G9
  k_steps
  rename Fr h₀ _ _ _ => F2
  rename News h₀ _ _ _ => N2
  exact hret _ _ _ _ _ hT8 G9 F2 N2
end Mine
end
-- E_chunk
section
open PySem PySem.W PyProof.Rows PySem.Spec PySem.Calls
set_option Elab.async false
set_option maxRecDepth 100000
set_option maxHeartbeats 16000000
namespace Mine
theorem c_chunk {w : World} {pg : Program} {loose : List Str} {mean : ExcName → Option Value} {mg mb : Str → Option Value} {news : List (Addr × Obj)} {φ : Fmt} {c : Nat} {vs : Array Value} {xs : List (List Nat × List Nat)} (hsz : vs.size ≤ 300) {tb : Obj} (p q : List Nat) (tp tq : Tok) :
  ∀ (cn : Str) (nm : List (Str × NameKind)) (mr : List (Str × Const)) (a : Addr) (ccd : Value) (cl : List (Str × Addr)) (outer : List Env) (A₀ : Around) (base h₀ : Heap) (L : Addr) (m : Str → Option Value) (s : Shared) (Q E : Value → Shared → Prop),
    Below A₀ base outer h₀ → Fr h₀ L s.heap m → (hd.heap_1 w.params).In h₀ → News h₀ L s.heap (FmtNews w φ tb vs c news) → Top pg loose mean mg mb h₀ → CodeHd base 166 162 → TabW tb → AllBare s.gens → PairsIn news vs.toList xs → tlen (xs ++ [(p, q)]) ≤ 1000 → φ.Ord → (∀ q ∈ news, q.1 ≠ 162) → (∀ q ∈ news, q.1 ≠ φ.x) →
    (∀ (tb' : Obj) (T t u c' : Nat) (h' : Heap) (g' : Array GenState) (tk' : Nat), TabW tb' → AllBare g' → φ.x < T → (∀ q ∈ news, q.1 < T) → Fr h₀ L h' m → News h₀ L h' (FmtNews w φ tb' (vs.push (.ref T)) c' ((T, pairObj p q t u) :: news)) → Q .none ⟨h', g', s.drawn, tk', s.os⟩) →
      wpAny (model PySem.Challenge.rw_wu0094_01.row.prog w) (ktrTop 600 3000 (some []) cn (fsc nm mr) L a ccd cl outer) (call (.ref 113) [.ref φ.fm, .str (S p) tp, .str (S q) tq]) Q E s := by
  k_fill
  k_with_none
  (k_with "getAttr ref" => (k_here; k_dflt (refine' get_L (C := 200) ?k1 ?k2 ?k3 ?k4 ?k5 ?k6 ?k7 ?k8 ?k9 ?k10 ?k11 ?_; (case k1 => k_asm); (case k2 => k_asm); (case k3 => k_inst); (case k4 => k_is); (case k5 => k_is); (case k6 => k_is); (case k7 => k_is); (case k8 => k_is); (case k9 => k_is); (case k10 => k_get); (case k11 => k_handed); k_whole)))
  (k_with "getMethod ref" => (k_here; k_dflt (refine' method_L (C := 200) ?k1 ?k2 ?k3 ?k4 ?k5 ?k6 ?k7 ?k8 ?k9 ?_; (case k1 => k_asm); (case k2 => k_asm); (case k3 => k_inst); (case k4 => k_is); (case k5 => k_is); (case k6 => k_is); (case k7 => k_is); (case k8 => first | exact .inl rfl | exact .inr rfl); (case k9 => k_get); k_whole)))
  (k_with "call builtin:list.append" => (k_here; k_dflt (refine' append_L (K := hd.heap_1 _) (C := 200) ?k1 ?k2 ?k3 ?k4 ?k5 ?k6 ?_ ?k7; (case k1 => k_asm); (case k2 => k_asm); (case k3 => k_asm); (case k4 => k_is); (case k6 => k_upd); (case k5 => exact ⟨_, by k_mem⟩); (case k7 => (rw [sizeLine_eq]; omega)); k_whole; intro _ _ _)))
  intro cn nm mr a ccd cl outer A₀ base h₀ L m s Q E B F K N TT C hT G P hlen hO h162 hx hret
  simp only [FmtNews, FmtTl] at N
  dsimp only [Fmt.Ord] at hO
  refine wpAny_call ?_
  k_dflt k_enter
  (k_with "call builtin:len" => refine halt ?_)
  k_steps
  refine unhalt ?_
  k_with_none
  (k_with "getAttr ref" => (k_here; k_dflt (refine' get_L (C := 200) ?k1 ?k2 ?k3 ?k4 ?k5 ?k6 ?k7 ?k8 ?k9 ?k10 ?k11 ?_; (case k1 => k_asm); (case k2 => k_asm); (case k3 => k_inst); (case k4 => k_is); (case k5 => k_is); (case k6 => k_is); (case k7 => k_is); (case k8 => k_is); (case k9 => k_is); (case k10 => k_get); (case k11 => k_handed); k_whole)))
  (k_with "getMethod ref" => (k_here; k_dflt (refine' method_L (C := 200) ?k1 ?k2 ?k3 ?k4 ?k5 ?k6 ?k7 ?k8 ?k9 ?_; (case k1 => k_asm); (case k2 => k_asm); (case k3 => k_inst); (case k4 => k_is); (case k5 => k_is); (case k6 => k_is); (case k7 => k_is); (case k8 => first | exact .inl rfl | exact .inr rfl); (case k9 => k_get); k_whole)))
  (k_with "call builtin:list.append" => (k_here; k_dflt (refine' append_L (K := hd.heap_1 _) (C := 200) ?k1 ?k2 ?k3 ?k4 ?k5 ?k6 ?_ ?k7; (case k1 => k_asm); (case k2 => k_asm); (case k3 => k_asm); (case k4 => k_is); (case k6 => k_upd); (case k5 => exact ⟨_, by k_mem⟩); (case k7 => (rw [sizeLine_eq]; omega)); k_whole; intro _ _ _)))
  rename Below _ _ (_ :: outer) _ => B1
  rename_i D5 hq1 Fq1 Nq1 lD hq2 Fq2 Nq2 F5 N5 T1 K1
  clear Nq1 Nq2
  refine len_K (C := 200) F5 K1 (by k_inst) (by k_is) (by k_is) ?_
  have hs2 : ∀ q ∈ news, q.1 < D5 := allLt_all lD.2.2.2.2.2.2 (Nat.le_refl _)
  refine wpAny_weaken (B := ktrTop 700 5000 (some []) _ (fsc _ _) _ _ _ _ _) rfl (Nat.le_of_ble_eq_true rfl) rfl rfl (Nat.le_of_ble_eq_true rfl)
    (c_len (tb := tb) (x := φ.x) (dx := φ.dx) (c := c + 1) (t1 := φ.k 0) (t2 := φ.k 1) (vs := vs.push (.ref D5)) (xs := xs ++ [(p, q)]) (by simp; omega) (news := (D5, pairObj p q tp tq) :: FmtTl w φ news) _ _ _ _ _ _ _ _ _ _ _ _ _ _ _ B1 F5 K1 (news_sub N5 ?n1) T1 C hT G ?n2 hlen ?n3 ?n4 ?n5 ?n6)
  case n1 =>
    intro r hr
    simp only [FmtTl, List.mem_cons] at hr ⊢
    rcases hr with h | h | h | h | h | h | h | h <;> (repeat first | exact h | exact Or.inl h | apply Or.inr)
  case n2 =>
    rw [Array.toList_push]
    exact PairsIn.snoc (.head _) (P.mono fun r hr => by simp only [FmtTl, List.mem_cons]; exact .inr (.inr (.inr (.inr hr))))
  case n3 => omega
  case n4 => omega
  case n5 =>
    intro r hr
    simp only [FmtTl, List.mem_cons] at hr
    rcases hr with rfl | rfl | rfl | rfl | hr
    · exact Nat.ne_of_gt lD.1
    · show φ.fm ≠ 162
      omega
    · show φ.df ≠ 162
      omega
    · show φ.ln ≠ 162
      omega
    · exact h162 r hr
  case n6 =>
    intro tb' t6 h6 g6 tk6 hT6 G6 F6 N6
    clear N5
    simp only [FmtTl] at N6
    have hxD : φ.x < D5 := lD.2.1
    (try dsimp only [LenBack])
    refine ⟨⟨by omega, by omega⟩, ?_⟩
    k_steps
    rename Fr h₀ _ _ _ => F7
    rename News h₀ _ _ _ => N7
    refine hret tb' D5 tp tq (c + 1) _ _ _ hT6 G6 hxD hs2 F7 (news_sub N7 ?n7)
    intro r hr
    simp only [FmtNews, FmtTl, List.mem_cons] at hr ⊢
    rcases hr with h | h | h | h | h | h | h | h <;> (repeat first | exact h | exact Or.inl h | apply Or.inr)
end Mine
end
-- RX
section
open PySem PySem.W PyProof.Rows PySem.Calls
set_option Elab.async false
set_option maxRecDepth 100000
namespace Mine
open PySem.Sre
noncomputable def rxCode : Array Nat := #[14,4,0,1,4294967295,17,0,24,11,1,4294967295,13,6,16,32,16,9,0,1,17,1,1]
noncomputable def bl (c : Nat) : Bool := c == 32 || c == 9
theorem rx_accepts (c : Nat) (seen : Sre.Seen) : ∃ seen', accepts rxCode 11 c seen = .ok (bl c, seen') := by
  have e : accepts rxCode 11 c seen = (if c == 32 then .ok (true, seen.add 16) else if c == 9 then .ok (true, (seen.add 16).add 16) else .ok (false, ((seen.add 16).add 16).add 0)) := rfl
  rw [e]
  unfold bl
  by_cases h1 : c = 32
  · subst h1; exact ⟨_, rfl⟩
  · by_cases h2 : c = 9
    · subst h2; exact ⟨_, rfl⟩
    · simp [h1, h2]
theorem rx_run (T : Array Nat) : ∀ (n p found : Nat) (seen : Sre.Seen), p + n ≤ T.size → ∃ seen', Sre.run rxCode T 11 n p found seen = .ok (found + (((T.toList.drop p).take n).takeWhile bl).length, seen') := by
  intro n
  induction n with
  | zero => intro p found seen _; exact ⟨seen, by simp [Sre.run]⟩
  | succ n ih =>
    intro p found seen hp
    obtain ⟨seen1, e1⟩ := rx_accepts (T.getD p 0) seen
    have hp' : p < T.toList.length := by simp; omega
    have hd : T.getD p 0 = T.toList[p] := by rw [Array.getD, dif_pos (by simpa using hp')]; simp
    rw [Sre.run, e1]
    rw [List.drop_eq_getElem_cons hp', List.take_succ_cons, List.takeWhile_cons, ← hd]
    show ∃ seen', (if bl (T.getD p 0) = true then Sre.run rxCode T 11 n (p + 1) (found + 1) seen1 else pure (found, seen1)) = _
    by_cases h : bl (T.getD p 0) = true
    · rw [if_pos h, if_pos h]
      obtain ⟨s2, e2⟩ := ih (p + 1) (found + 1) seen1 (by omega)
      exact ⟨s2, by rw [e2]; simp; omega⟩
    · rw [if_neg h, if_neg h]
      exact ⟨seen1, by simp; rfl⟩
noncomputable def at0 (T : Array Nat) (s : Nat) (om : Bool) (a b : Option Nat) (seen : Sre.Seen) : M :=
 { code := rxCode, text := T, lim := T.size, start := s, lastStart := T.size, wholeText := false, mustAdvance := false, pc := 5, pos := s, handed := s, outermost := om, marks := #[a, b], lastmark := -1, lastindex := -1, loops := #[], inner := none, frames := [{wait := .nextStart, pc := 5, pos := s, outermost := om}], weight := 1, answer := none, seen, outcome := none }
theorem search_lo (T : Array Nat) (s : Nat) (h : T.size < s + 1) : ∃ m, forSearch rxCode T 1 s T.size false = m ∧ m.outcome = none ∧ m.answer = some false ∧ m.frames = [] := by
  have e : (decide (s > T.size) || decide (T.size - s < (header rxCode).1)) = true := by
    rw [show (header rxCode).1 = 1 from rfl, Bool.or_eq_true, decide_eq_true_iff, decide_eq_true_iff]; omega
  refine ⟨_, rfl, ?_⟩
  unfold forSearch
  simp only [e, if_true]
  exact ⟨rfl, rfl, rfl⟩
theorem search_hi (T : Array Nat) (s : Nat) (h : s < T.size) : ∃ seen, forSearch rxCode T 1 s T.size false = at0 T s true none none seen := by
  have e : (decide (s > T.size) || decide (T.size - s < (header rxCode).1)) = false := by
    rw [show (header rxCode).1 = 1 from rfl, Bool.or_eq_false_iff, decide_eq_false_iff_not, decide_eq_false_iff_not]; omega
  unfold forSearch
  simp only [e, Bool.false_eq_true, if_false]
  exact ⟨_, rfl⟩
/-- at the repeat -/
noncomputable def at1 (T : Array Nat) (s : Nat) (om : Bool) (b : Option Nat) (seen : Sre.Seen) : M :=
 { code := rxCode, text := T, lim := T.size, start := s, lastStart := T.size, wholeText := false, mustAdvance := false, pc := 7, pos := s, handed := s, outermost := om, marks := #[some s, b], lastmark := 0, lastindex := -1, loops := #[], inner := none, frames := [{wait := .nextStart, pc := 5, pos := s, outermost := om}], weight := 1, answer := none, seen, outcome := none }
theorem step0 (T : Array Nat) (s : Nat) (om : Bool) (a b : Option Nat) (seen : Sre.Seen) : ∃ seen', (at0 T s om a b seen).step = at1 T s om b seen' := ⟨_, rfl⟩
theorem step1 (T : Array Nat) (s : Nat) (om : Bool) (b : Option Nat) (seen : Sre.Seen) : (at1 T s om b seen).step =
    if (((1 : Nat) : Int) > ((T.size : Int) - (s : Nat))) then { at1 T s om b (seen.add 24) with answer := some false } else
    match Sre.run rxCode T 11 (min 4294967295 ((T.size : Int) - (s : Nat)).toNat) s 0 ((seen.add 24).add 13) with
    | .error why => (at1 T s om b (seen.add 24)).stick why
    | .ok (n, seen) => if n < 1 then { at1 T s om b seen with answer := some false } else
      ({ at1 T s om b seen with pos := s + n }).afterRun .giveBack n { lastmark := 0, lastindex := -1, whole := false, marks := #[] } := rfl
end Mine
end
-- RY
section
open PySem PySem.W PyProof.Rows PySem.Calls
set_option Elab.async false
set_option maxRecDepth 100000
namespace Mine
open PySem.Sre
/-- the attempt has failed at s -/
noncomputable def at2 (T : Array Nat) (s : Nat) (om : Bool) (b : Option Nat) (seen : Sre.Seen) : M := { at1 T s om b seen with answer := some false }
theorem step2 (T : Array Nat) (s : Nat) (om : Bool) (b : Option Nat) (seen : Sre.Seen) (h : s < T.size) : (at2 T s om b seen).step = at0 T (s + 1) false (some s) b seen := by
  have e : (at2 T s om b seen).step = if s < T.size then at0 T (s + 1) false (some s) b seen else M.say { at1 T s om b seen with frames := [], weight := 0, pc := 5, mustAdvance := false } false := by
    by_cases h : s < T.size
    · rw [if_pos h]
      show (if s < T.size then _ else _ : M) = _
      rw [if_pos h]; rfl
    · rw [if_neg h]
      show (if s < T.size then _ else _ : M) = _
      rw [if_neg h]; rfl
  rw [e, if_pos h]
theorem step2e (T : Array Nat) (s : Nat) (om : Bool) (b : Option Nat) (seen : Sre.Seen) (h : ¬ s < T.size) : ∃ m, (at2 T s om b seen).step = m ∧ m.outcome = none ∧ m.answer = some false ∧ m.frames = [] := by
  refine ⟨M.say { at1 T s om b seen with frames := [], weight := 0, pc := 5, mustAdvance := false } false, ?_, rfl, rfl, rfl⟩
  show (if s < T.size then _ else _ : M) = _
  rw [if_neg h]; rfl
theorem fail_end (m : M) (h1 : m.outcome = none) (h2 : m.answer = some false) (h3 : m.frames = []) : m.step.outcome = some .failed := by
  unfold M.step
  rw [h1, h2, h3]; rfl
theorem match_end (m : M) (h1 : m.outcome = none) (h2 : m.answer = some true) (h3 : m.frames = []) : m.step = { m with outcome := some .matched } := by
  unfold M.step
  rw [h1, h2, h3]; rfl
/-- the run's length at s -/
noncomputable def blen (T : Array Nat) (s : Nat) : Nat := ((T.toList.drop s).takeWhile bl).length
theorem rx_rep (T : Array Nat) (s : Nat) (om : Bool) (b : Option Nat) (seen : Sre.Seen) (hT : T.size < 4000000000) (hs : s ≤ T.size) : ∃ seen', (at1 T s om b seen).step =
    if blen T s = 0 then at2 T s om b seen' else ({ at1 T s om b seen' with pos := s + blen T s }).afterRun .giveBack (blen T s : Nat) { lastmark := 0, lastindex := -1, whole := false, marks := #[] } := by
  rw [step1]
  by_cases h : s < T.size
  · rw [if_neg (by omega)]
    have e : min 4294967295 ((T.size : Int) - (s : Nat)).toNat = T.size - s := by omega
    obtain ⟨seen', e2⟩ := rx_run T (T.size - s) s 0 ((seen.add 24).add 13) (by omega)
    have e3 : (T.toList.drop s).take (T.size - s) = T.toList.drop s := List.take_of_length_le (by simp)
    rw [e3, Nat.zero_add] at e2
    rw [e, e2]
    refine ⟨seen', ?_⟩
    change _ = if blen T s = 0 then _ else _
    show (if blen T s < 1 then _ else _ : M) = _
    by_cases hb : blen T s = 0
    · rw [if_pos hb, if_pos (by omega)]; rfl
    · rw [if_neg hb, if_neg (by omega)]; rfl
  · rw [if_pos (by omega)]
    refine ⟨seen.add 24, ?_⟩
    have : blen T s = 0 := by unfold blen; rw [List.drop_eq_nil_of_le (by simp; omega)]; rfl
    rw [if_pos this]; rfl
/-- the match from s to e -/
noncomputable def mt1 (T : Array Nat) (s e : Nat) (om : Bool) (b : Option Nat) (seen : Sre.Seen) (n : Int) : M :=
  { at1 T s om b seen with pc := 19, pos := e, handed := e, weight := 2, frames := [{ wait := .giveBack, pc := 7, pos := e, outermost := om, count := n, kept := { lastmark := 0, lastindex := -1, whole := false, marks := #[] } }, {wait := .nextStart, pc := 5, pos := s, outermost := om}] }
theorem mt_a (T : Array Nat) (s e n : Nat) (om : Bool) (b : Option Nat) (seen : Sre.Seen) : (({ at1 T s om b seen with pos := e }).afterRun .giveBack n { lastmark := 0, lastindex := -1, whole := false, marks := #[] }) = mt1 T s e om b seen n := rfl
theorem mt_b (T : Array Nat) (s e : Nat) (om : Bool) (b : Option Nat) (seen : Sre.Seen) (n : Int) : ∃ li, (mt1 T s e om b seen n).step = { mt1 T s e om b (seen.add 17) n with marks := #[some s, some e], lastmark := 1, lastindex := li, pc := 21 } := ⟨_, rfl⟩
theorem mt_c (li : Int) (T : Array Nat) (s e : Nat) (om : Bool) (b : Option Nat) (seen : Sre.Seen) (n : Int) : M.step { mt1 T s e om b seen n with marks := #[some s, some e], lastmark := 1, lastindex := li, pc := 21 } = { mt1 T s e om b (seen.add 1) n with marks := #[some s, some e], lastmark := 1, lastindex := li, pc := 21, answer := some true } := by
  cases om <;> rfl
theorem mt_d (li : Int) (T : Array Nat) (s e : Nat) (om : Bool) (b : Option Nat) (seen : Sre.Seen) (n : Int) : M.step { mt1 T s e om b seen n with marks := #[some s, some e], lastmark := 1, lastindex := li, pc := 21, answer := some true } =
  { mt1 T s e om b seen n with marks := #[some s, some e], lastmark := 1, lastindex := li, pc := 7, answer := some true, weight := 1, frames := [{wait := .nextStart, pc := 5, pos := s, outermost := om}] } := rfl
theorem mt_e (li : Int) (T : Array Nat) (s e : Nat) (om : Bool) (b : Option Nat) (seen : Sre.Seen) (n : Int) : M.step { mt1 T s e om b seen n with marks := #[some s, some e], lastmark := 1, lastindex := li, pc := 7, answer := some true, weight := 1, frames := [{wait := .nextStart, pc := 5, pos := s, outermost := om}] } =
  { mt1 T s e om b seen n with marks := #[some s, some e], lastmark := 1, lastindex := li, pc := 5, answer := some true, pos := s, weight := 0, frames := [] } := rfl
theorem runFor_one {m : M} (h : m.outcome = none) (k : Nat) : M.runFor (k + 1) m = M.runFor k m.step := by
  rw [M.runFor, if_neg (by rw [h]; decide)]
theorem rx_match (T : Array Nat) (s e n : Nat) (om : Bool) (b : Option Nat) (seen : Sre.Seen) : ∃ m, M.runFor 5 (({ at1 T s om b seen with pos := e }).afterRun .giveBack n { lastmark := 0, lastindex := -1, whole := false, marks := #[] }) = m ∧
    m.outcome = some .matched ∧ m.start = s ∧ m.handed = e ∧ m.marks = #[some s, some e] ∧ m.lastmark = 1 := by
  obtain ⟨li, hb⟩ := mt_b T s e om b seen n
  rw [mt_a, runFor_one rfl, hb, runFor_one rfl, mt_c, runFor_one rfl, mt_d, runFor_one rfl, mt_e, runFor_one rfl, match_end _ rfl rfl rfl]
  exact ⟨_, rfl, rfl, rfl, rfl, rfl, rfl⟩
theorem runFor_some {m : M} (h : m.outcome.isSome = true) : ∀ k, M.runFor k m = m
  | 0 => rfl
  | k + 1 => by rw [M.runFor, if_pos h]
theorem runFor_add (a b : Nat) (m : M) : M.runFor (a + b) m = M.runFor b (M.runFor a m) := by
  induction a generalizing m with
  | zero => rw [Nat.zero_add]; rfl
  | succ a ih =>
    rw [Nat.succ_add]
    by_cases h : m.outcome.isSome = true
    · rw [runFor_some h, runFor_some h, runFor_some h]
    · rw [M.runFor, if_neg h, M.runFor, if_neg h, ih]
/-- what a search from s finds -/
noncomputable def Finds (T : Array Nat) (s : Nat) (m : M) : Prop :=
  let p := (T.toList.drop s).takeWhile (fun c => !bl c)
  let q := (T.toList.drop s).dropWhile (fun c => !bl c)
  if q = [] then m.outcome = some .failed else
    m.outcome = some .matched ∧ m.start = s + p.length ∧ m.handed = s + p.length + (q.takeWhile bl).length ∧ m.marks = #[some (s + p.length), some (s + p.length + (q.takeWhile bl).length)] ∧ m.lastmark = 1
theorem rx_search (T : Array Nat) (hT : T.size < 4000000000) : ∀ (n s : Nat) (om : Bool) (a b : Option Nat) (seen : Sre.Seen), s + n = T.size → ∃ k, k ≤ 3 * n + 8 ∧ Finds T s (M.runFor k (at0 T s om a b seen)) := by
  intro n
  induction n with
  | zero =>
    intro s om a b seen hs
    obtain ⟨s1, e1⟩ := step0 T s om a b seen
    obtain ⟨s2, e2⟩ := rx_rep T s om b s1 hT (by omega)
    have hb : blen T s = 0 := by unfold blen; rw [List.drop_eq_nil_of_le (by simp; omega)]; rfl
    rw [if_pos hb] at e2
    obtain ⟨m, e3, h1, h2, h3⟩ := step2e T s om b s2 (by omega)
    refine ⟨4, by omega, ?_⟩
    rw [runFor_one rfl, e1, runFor_one rfl, e2, runFor_one rfl, e3, runFor_one h1]
    unfold Finds
    rw [List.drop_eq_nil_of_le (by simp; omega)]
    exact fail_end m h1 h2 h3
  | succ n ih =>
    intro s om a b seen hs
    obtain ⟨s1, e1⟩ := step0 T s om a b seen
    obtain ⟨s2, e2⟩ := rx_rep T s om b s1 hT (by omega)
    have hl : s < T.toList.length := by simp; omega
    have hd := List.drop_eq_getElem_cons hl
    cases hc : bl T.toList[s] with
    | false =>
      have hb : blen T s = 0 := by unfold blen; rw [hd, List.takeWhile_cons, hc]; rfl
      rw [if_pos hb] at e2
      obtain ⟨k, hk, hf⟩ := ih (s + 1) false (some s) b s2 (by omega)
      refine ⟨k + 3, by omega, ?_⟩
      rw [runFor_one rfl, e1, runFor_one rfl, e2, runFor_one rfl, step2 T s om b s2 (by omega)]
      unfold Finds at hf ⊢
      simp only [] at hf ⊢
      rw [hd, List.takeWhile_cons, List.dropWhile_cons, hc]
      simp only [Bool.not_false, if_true, List.length_cons]
      rw [show s + (((T.toList.drop (s + 1)).takeWhile fun c => !bl c).length + 1) = s + 1 + ((T.toList.drop (s + 1)).takeWhile fun c => !bl c).length from by omega]
      exact hf
    | true =>
      have hb : blen T s ≠ 0 := by unfold blen; rw [hd, List.takeWhile_cons, hc]; simp
      rw [if_neg hb] at e2
      obtain ⟨m, e3, h1, h2, h3, h4, h5⟩ := rx_match T s (s + blen T s) (blen T s) om b s2
      refine ⟨7, by omega, ?_⟩
      rw [runFor_one rfl, e1, runFor_one rfl, e2, e3]
      unfold Finds
      have p0 : (T.toList.drop s).takeWhile (fun c => !bl c) = [] := by rw [hd, List.takeWhile_cons, hc]; rfl
      have q0 : (T.toList.drop s).dropWhile (fun c => !bl c) = T.toList.drop s := by rw [hd, List.dropWhile_cons, hc]; rfl
      simp only [p0, q0, List.length_nil, Nat.add_zero]
      rw [if_neg (by rw [hd]; simp)]
      exact ⟨h1, h2, h3, h4, h5⟩
theorem rx_find (T : Array Nat) (hT : T.size < 4000000000) (s : Nat) (hs : s ≤ T.size) : ∃ k, k ≤ 3 * T.size + 8 ∧ Finds T s (M.runFor k (forSearch rxCode T 1 s T.size false)) := by
  by_cases h : s < T.size
  · obtain ⟨seen, e⟩ := search_hi T s h
    obtain ⟨k, hk, hf⟩ := rx_search T hT (T.size - s) s true none none seen (by omega)
    exact ⟨k, by omega, by rw [e]; exact hf⟩
  · obtain ⟨m, e, h1, h2, h3⟩ := search_lo T s (by omega)
    refine ⟨1, by omega, ?_⟩
    rw [e, runFor_one h1]
    unfold Finds
    rw [List.drop_eq_nil_of_le (by simp; omega)]
    exact fail_end m h1 h2 h3
section
variable {M₀ : Model} {A : Around} {E : Value → Shared → Prop} {s : Shared}
theorem drive {m : M} {Q : M → Shared → Prop} : ∀ (turns k : Nat) (m : M), k ≤ 4 * turns → (M.runFor k m).outcome.isSome = true → (0 < turns) → Q (M.runFor k m) s → wpAny M₀ A (Builtin.Re.reDrive turns m) Q E s := by
  intro turns
  induction turns with
  | zero => intro k m _ _ h; exact absurd h (by omega)
  | succ t ih =>
    intro k m hk ho _ hq
    rw [Builtin.Re.reDrive]
    show wpAny _ _ (if (M.runFor 4 m).outcome.isSome = true then pure (M.runFor 4 m) else (do rule "sre.turn"; Builtin.Re.reDrive t (M.runFor 4 m))) _ _ _
    by_cases h4 : k ≤ 4
    · have e : M.runFor 4 m = M.runFor k m := by
        rw [show 4 = k + (4 - k) from by omega, runFor_add, runFor_some ho]
      rw [e, if_pos ho]
      exact wpAny_pure hq
    · have e : M.runFor k m = M.runFor (k - 4) (M.runFor 4 m) := by rw [← runFor_add]; congr 1; omega
      by_cases h : (M.runFor 4 m).outcome.isSome = true
      · rw [if_pos h]
        rw [e, runFor_some h] at hq
        exact wpAny_pure hq
      · rw [if_neg h]
        refine wpAny_bind (wpAny_rule (ih (k - 4) _ (by omega) (by rw [← e]; exact ho) (by omega) (by rw [← e]; exact hq)))
end
end Mine
end
-- RZ
section
open PySem PySem.W PyProof.Rows PySem.Spec PySem.Calls
set_option Elab.async false
set_option maxRecDepth 100000
set_option maxHeartbeats 4000000
namespace Mine
theorem pa_re : PlainAttrs "re.Pattern" :=
  ⟨⟨"object.__getattribute__", by rw [typeLookup_type, builtinLookup_eq_fast]; kernel_rfl, by decide +kernel⟩, by rw [typeLookup_type, builtinLookup_eq_fast]; kernel_rfl⟩
theorem slot_rsplit : Slot "re.Pattern" "split" "re.Pattern.split" := .of (owner := "re.Pattern") (n := "split") (by rw [typeLookup_type, builtinLookup_eq_fast]; kernel_rfl) (by decide +kernel) (by decide +kernel) (by decide +kernel)
  (by first | exact .inl (by decide +kernel) | exact .inr (by decide +kernel)) (by rw [isSubtype_type]; kernel_rfl)
theorem type_rsplit : typeOf (.builtin "re.Pattern.split") = pure (.type "method_descriptor") := by show builtinType _ = _; rw [builtinType_eq_fast]; kernel_rfl
theorem entry_rsplit : entryFor table "re.Pattern.split" = some Builtin.«re.Pattern.split» := entryFor_of_tree (by kernel_rfl)
theorem args_rsplit (a b : Value) : argsOk "re.Pattern.split" ⟨[a, b], []⟩ := by unfold argsOk; kernel_rfl
/-- what the pattern cuts: a part, white, a part, .. -/
noncomputable def rxF : Nat → List Nat → List (List Nat)
  | 0, l => [l]
  | n + 1, l =>
    let q := l.dropWhile (fun c => !bl c)
    if q = [] then [l] else l.takeWhile (fun c => !bl c) :: q.takeWhile bl :: rxF n (q.dropWhile bl)
section
variable {prog : Program} {w : World} {A : Around} {E : Value → Shared → Prop} {s : Shared}
theorem re_runs {m : Sre.M} {k : Nat} {Q : Option Sre.M → Shared → Prop} (hk : k ≤ 1000) (ho : (Sre.M.runFor k m).outcome.isSome = true)
    (h1 : (Sre.M.runFor k m).outcome = some .matched → Q (some (Sre.M.runFor k m)) s) (h2 : (Sre.M.runFor k m).outcome = some .failed → Q none s) (h3 : (Sre.M.runFor k m).outcome = some .matched ∨ (Sre.M.runFor k m).outcome = some .failed) : wpAny (model prog w) A (Builtin.Re.reRunToEnd m) Q E s := by
  unfold Builtin.Re.reRunToEnd
  refine wpAny_bind (drive (m := m) (2 ^ 64) k m (Nat.le_trans hk (by decide)) ho (by decide) ?_)
  generalize Sre.M.runFor k m = m' at *
  refine wpAny_bind (wpAny_mono (Q := fun _ s' => s' = s) ?_ (fun _ s' e => ?_) fun _ _ e => e)
  · refine wpAny_forIn_list _ (fun _ _ s' => s' = s) _ ?_ ?_ _ _ rfl
    · rintro i rest b s' rfl
      split
      · exact wpAny_bind (wpAny_rule (wpAny_pure rfl))
      · exact wpAny_pure rfl
    · rintro b s' rfl; rfl
  · subst e
    rcases h3 with e | e
    · have q := h1 e; rw [e]; exact wpAny_pure q
    · have q := h2 e; rw [e]; exact wpAny_pure q
/-- the next match from place p of the text T -/
theorem re_next {t : Builtin.Re.ReTarget} {T : List Nat} {p : Nat} {Q : Option Sre.M → Shared → Prop} (hc : t.code = rxCode) (ht : t.text = T.toArray) (hg : t.groups = 1) (hl : t.lim = T.length) (hT : T.length ≤ 200) (hp : p ≤ T.length)
    (h1 : (T.drop p).dropWhile (fun c => !bl c) = [] → Q none s)
    (h2 : ∀ m : Sre.M, (T.drop p).dropWhile (fun c => !bl c) ≠ [] → m.start = p + ((T.drop p).takeWhile (fun c => !bl c)).length → m.handed = m.start + (((T.drop p).dropWhile (fun c => !bl c)).takeWhile bl).length →
      m.marks = #[some m.start, some m.handed] → m.lastmark = 1 → Q (some m) s) : wpAny (model prog w) A (Builtin.Re.reNextFound t p false) Q E s := by
  unfold Builtin.Re.reNextFound
  rw [hc, ht, hg, hl]
  have hs : T.toArray.size = T.length := by simp
  obtain ⟨k, hk, hf⟩ := rx_find T.toArray (by rw [hs]; omega) p (by rw [hs]; exact hp)
  rw [hs] at hk hf
  unfold Finds at hf
  simp only [List.toList_toArray] at hf
  by_cases hq : (T.drop p).dropWhile (fun c => !bl c) = []
  · rw [if_pos hq] at hf
    refine re_runs (k := k) (by omega) (by rw [hf]; rfl) (fun e => ?_) (fun _ => h1 hq) (.inr hf)
    rw [hf] at e; cases e
  · rw [if_neg hq] at hf
    obtain ⟨f1, f2, f3, f4, f5⟩ := hf
    refine re_runs (k := k) (by omega) (by rw [f1]; rfl) (fun _ => h2 _ hq f2 (by rw [f3, f2]) (by rw [f4, f2, f3]) f5) (fun e => ?_) (.inl f1)
    rw [f1] at e; cases e
end
noncomputable abbrev rxItems : Array Value := #[.int 14 0, .int 4 0, .int 0 0, .int 1 0, .int 4294967295 0, .int 17 0, .int 0 0, .int 24 0, .int 11 0, .int 1 0, .int 4294967295 0, .int 13 0, .int 6 0, .int 16 0, .int 32 0, .int 16 0, .int 9 0, .int 0 0, .int 1 0, .int 17 0, .int 1 0, .int 1 0]
theorem rx_code : (rxItems.map Builtin.Re.reRawOf).map (·.toNat) = rxCode := by decide +kernel
theorem ext_S (T : List Nat) (a b : Nat) : (⟨T.toArray.extract a b⟩ : Str) = S ((T.take b).drop a) := by
  unfold S
  congr 1
  apply Array.ext'
  simp [List.extract_eq_take_drop, List.drop_take]
theorem tw_app {α : Type} (f : α → Bool) (l : List α) : l = l.takeWhile f ++ l.dropWhile f := (List.takeWhile_append_dropWhile).symm
theorem take_tw {α : Type} (f : α → Bool) : ∀ l : List α, l.take (l.takeWhile f).length = l.takeWhile f
  | [] => rfl
  | a :: r => by
    rw [List.takeWhile_cons]
    split
    · rw [List.length_cons, List.take_succ_cons, take_tw f r]
    · rfl
theorem drop_tw {α : Type} (f : α → Bool) (l : List α) : l.drop (l.takeWhile f).length = l.dropWhile f := by
  conv => lhs; rw [tw_app f l]
  rw [List.drop_append_of_le_length (by rw [← tw_app f l]; exact Nat.le_refl _)]
  simp
section
variable {prog : Program} {w : World} {A : Around} {E : Value → Shared → Prop} {s : Shared}
theorem rxF_len : ∀ (n : Nat) (l : List Nat), (rxF n l).length ≤ 2 * n + 1
  | 0, l => by simp [rxF]
  | n + 1, l => by
    show (if (l.dropWhile fun c => !bl c) = [] then _ else _ : List (List Nat)).length ≤ _
    split
    · simp
    · have := rxF_len n ((l.dropWhile fun c => !bl c).dropWhile bl)
      simp only [List.length_cons]; omega
theorem re_slice {T : List Nat} {a b : Nat} {Q : Value → Shared → Prop} (hT : T.length ≤ 200) (h : Q (.str (S ((T.take b).drop a)) s.toks) { s with toks := s.toks + 1 }) : wpAny (model prog w) A (Builtin.Re.reSlice T.toArray 0 a b) Q E s := by
  unfold Builtin.Re.reSlice
  show wpAny _ _ (mkStr ⟨T.toArray.extract a b⟩) _ _ _
  rw [ext_S]
  unfold mkStr
  rw [if_neg (by rw [S_len]; simp only [List.length_drop, List.length_take]; rw [sizeLine_eq]; omega)]
  exact wpAny_bind (wpAny_fresh (wpAny_pure h))
theorem rsplit_run {P C : Addr} {T : List Nat} {tk t0 : Tok} {n : Nat} {op oc : Obj} {x0 : Value} {Q : Value → Shared → Prop} (hP : s.heap.get? P = some op) (hPc : op.cls = .type "re.Pattern") (hPd : op.data = .fields #[x0, .int 32 t0, .int 1 0, .none, .none, .ref C, .int 0 0])
    (hC : s.heap.get? C = some oc) (hCd : oc.data = .seq rxItems n) (hT : T.length ≤ 200)
    (h : ∀ (vs : List Value) k, StrsA vs (rxF T.length T) → Q (.ref s.heap.objs.size) { s with heap := s.heap.push { cls := .type "list", data := .seq vs.toArray }, toks := k }) :
    wpAny (model prog w) A (call (.builtin "re.Pattern.split") [.ref P, .str (S T) tk]) Q E s := by
  refine wpAny_call_entry slot_rsplit ⟨_, hP, hPc⟩ entry_rsplit ?_ (args_rsplit _ _)
  unfold Builtin.«re.Pattern.split»
  refine wpAny_bind (wpAny_of_eq (show Builtin.Re.reNamed "re.Pattern.split" "split" ["string", "maxsplit"] 1 [.str (S T) tk] [] = pure [some (.str (S T) tk), none] from rfl) ?_)
  dsimp only
  refine wpAny_bind (wpAny_pure ?_)
  refine wpAny_bind ?_
  unfold Builtin.Re.reWholeTarget
  refine wpAny_bind (wpAny_fieldsOf hP hPd ?_)
  refine wpAny_bind (wpAny_of_eq (show Builtin.Re.reTextOf (.str (S T) tk) = pure ((S T).cps, 0) from rfl) ?_)
  dsimp only
  show wpAny _ _ (if (false : Bool) = true then _ else _) _ _ _
  rw [if_neg Bool.false_ne_true]
  show wpAny _ _ (if (false : Bool) = true then _ else _) _ _ _
  rw [if_neg Bool.false_ne_true]
  refine wpAny_bind (wpAny_of_eq (show Builtin.Re.reNoCollectionInside (.str (S T) tk) 0 = pure () from rfl) ?_)
  refine wpAny_bind ?_
  show wpAny _ _ (Builtin.Re.reRawItems (.ref C)) _ _ _
  unfold Builtin.Re.reRawItems
  refine wpAny_bind (wpAny_seqItems hC hCd (wpAny_pure (wpAny_pure ?_)))
  show wpAny _ _ (forIn _ _ _ >>= _) _ _ _
  generalize ht : Builtin.Re.ReTarget.mk _ _ _ _ _ _ _ _ = t
  have hc : t.code = rxCode := by rw [← ht]; exact rx_code
  have htx : t.text = T.toArray := by rw [← ht]; rfl
  have hg : t.groups = 1 := by rw [← ht]; rfl
  have hk : t.kind = 0 := by rw [← ht]
  have hl : t.lim = T.length := by rw [← ht]; exact S_len T
  clear ht
  refine wpAny_bind (wpAny_forIn_list _ (fun rest b s' => ∃ k p out n' over fuel xs, s' = { s with toks := k } ∧ b = (out, p, p, false, n', over) ∧ p ≤ T.length ∧ StrsA out.toList xs ∧ T.length - p ≤ fuel ∧
    ((over = false ∧ 2 * (T.length - p) + 1 ≤ rest.length ∧ xs ++ rxF fuel (T.drop p) = rxF T.length T) ∨ (over = true ∧ xs ++ [T.drop p] = rxF T.length T))) _ ?turn ?fin _ _ ?start)
  case start =>
    refine ⟨s.toks, 0, #[], 0, false, T.length, [], rfl, rfl, Nat.zero_le _, .nil, Nat.le_refl _, .inl ⟨rfl, ?_, rfl⟩⟩
    unfold Builtin.Re.reMostMatches
    rw [htx, List.length_range]
    simp
  case fin =>
    rintro b s' ⟨k, p, out, n', over, fuel, xs, rfl, rfl, hp, hxs, hf, hor⟩
    rcases hor with ⟨_, hr, _⟩ | ⟨rfl, e⟩
    · exact absurd hr (by simp)
    · dsimp only
      rw [htx, hk, hl]
      refine wpAny_bind (re_slice hT ?_)
      rw [List.take_of_length_le (Nat.le_refl _), Array.toList_push]
      have hv := hxs.snoc (T.drop p) k
      rw [e] at hv
      have hlen : (out.toList ++ [Value.str (S (T.drop p)) k]).length ≤ 2 * T.length + 1 := by rw [hv.len]; exact rxF_len _ _
      refine wpAny_bind (wpAny_newObj_type (wpAny_pure ⟨_, rfl, h _ _ hv⟩) ?_)
      show (out.toList ++ [Value.str (S (T.drop p)) k]).toArray.size ≤ _
      rw [List.size_toArray, sizeLine_eq]
      omega
  case turn =>
    rintro x rest b s' ⟨k, p, out, n', over, fuel, xs, rfl, rfl, hp, hxs, hf, hor⟩
    dsimp only
    rcases hor with ⟨rfl, hr, e⟩ | ⟨rfl, e⟩
    · rw [if_pos (show (!false) = true from rfl)]
      refine wpAny_bind ?_
      rw [show ((0 : Int) != 0) = false from rfl, Bool.false_and, if_neg Bool.false_ne_true]
      refine (re_next hc htx hg hl hT hp (fun hq => ?_) (fun m hq h1 h2 h3 h4 => ?_))
      · refine wpAny_pure ⟨k, p, out, n', true, fuel, xs, rfl, rfl, hp, hxs, hf, .inr ⟨rfl, ?_⟩⟩
        rw [← e]
        cases fuel with
        | zero => rfl
        | succ f => rw [rxF, if_pos hq]
      · dsimp only
        rw [htx, hk, hg]
        generalize ha : (T.drop p).takeWhile (fun c => !bl c) = a at h1
        generalize hqd : (T.drop p).dropWhile (fun c => !bl c) = q at hq h2
        have hsp : T.drop p = a ++ q := by rw [← ha, ← hqd]; exact tw_app _ _
        have hlen : T.length - p = a.length + q.length := by rw [← List.length_drop, hsp, List.length_append]
        have hwl := congrArg List.length (tw_app bl q)
        rw [List.length_append] at hwl
        have hw0 : 0 < (q.takeWhile bl).length := by
          cases q with
          | nil => exact absurd rfl hq
          | cons c r =>
            have hbc : bl c = true := by
              have h0 := List.head?_dropWhile_not (fun c => !bl c) (T.drop p)
              rw [hqd] at h0
              simpa using h0
            rw [List.takeWhile_cons, if_pos hbc]; simp
        refine wpAny_bind (re_slice hT ?_)
        have e1 : (T.take m.start).drop p = a := by
          rw [h1, List.drop_take, hsp]; simp
        have e2 : (T.take m.handed).drop m.start = q.takeWhile bl := by
          rw [List.drop_take, h2, h1, Nat.add_sub_cancel_left, ← List.drop_drop, hsp, List.drop_left']
          · exact take_tw bl q
          · rfl
        have e3 : T.drop m.handed = q.dropWhile bl := by
          rw [h2, h1, ← List.drop_drop, ← List.drop_drop, hsp, List.drop_left' rfl]
          exact drop_tw bl q
        rw [e1]
        show wpAny _ _ (forIn [0] _ _ >>= _) _ _ _
        rw [List.forIn_cons]
        refine wpAny_bind (wpAny_bind (wpAny_bind ?_))
        unfold Builtin.Re.reMachineGroup
        rw [h3, h4]
        show wpAny _ _ (if (((2 * 0 : Nat) : Int) ≥ 1) then _ else _) _ _ _
        rw [if_neg (by decide)]
        show wpAny _ _ (if m.handed < m.start then _ else Builtin.Re.reSlice t.text t.kind m.start m.handed) _ _ _
        rw [if_neg (by omega), htx, hk]
        refine re_slice hT ?_
        rw [e2]
        refine wpAny_pure ?_
        refine wpAny_pure ?_
        refine wpAny_pure ?_
        dsimp only
        have hmust : (m.handed == m.start) = false := beq_false_of_ne (by omega)
        rw [hmust]
        obtain ⟨f, rfl⟩ : ∃ f, fuel = f + 1 := ⟨fuel - 1, by omega⟩
        rw [rxF] at e
        simp only [ha, hqd] at e
        rw [if_neg hq] at e
        refine ⟨_, m.handed, _, _, false, f, xs ++ [a] ++ [q.takeWhile bl], rfl, rfl, by omega, ?_, by omega, .inl ⟨rfl, ?_, ?_⟩⟩
        · rw [Array.toList_push, Array.toList_push]
          exact (hxs.snoc _ _).snoc _ _
        · simp only [List.length_cons] at hr; omega
        · rw [e3, ← e]; simp
    · rw [if_neg (by decide)]
      exact wpAny_pure ⟨k, p, out, n', true, fuel, xs, rfl, rfl, hp, hxs, hf, .inr ⟨rfl, e⟩⟩
end
end Mine
end
-- SF
section
open PySem PySem.W PyProof.Rows PySem.Spec PySem.Calls
set_option Elab.async false
set_option maxRecDepth 100000
set_option maxHeartbeats 4000000
namespace Mine
theorem slice_noindex : typeLookup (.type "slice") "__index__" = pure none := by rw [typeLookup_type, builtinLookup_eq_fast]; kernel_rfl
theorem int_index : ∃ r, typeLookup (.type "int") "__index__" = pure (some r) := ⟨.builtin "int.__index__", by rw [typeLookup_type, builtinLookup_eq_fast]; kernel_rfl⟩
section
variable {prog : Program} {w : World} {A : Around} {E : Value → Shared → Prop} {hp : Heap} {g : Array GenState} {d : Drawn} {tk : Nat} {os : OsState}
theorem set_front {D sl e : Addr} {its : Array Value} {v : Value} {n n' : Nat} {t : Tok} {Q : Unit → Shared → Prop} (hD : hp.get? D = some (listOf its n)) (hsl : hp.get? sl = some { cls := .type "slice", data := .fields #[.none, .int 0 t, .none] })
    (he : hp.get? e = some (listOf #[v] n')) (hne : D ≠ e) (hz : its.size ≤ 1000)
    (h : ∀ h', Heap.SameBut D hp h' → h'.get? D = some (listOf (#[v] ++ its) (n + 1)) → Q () ⟨h', g, d, tk, os⟩) :
    wpAny (model prog w) A (setItem (.ref D) (.ref sl) (.ref e)) Q E ⟨hp, g, d, tk, os⟩ := by
  have hT : ∀ t', (⟨hp, g, d, t', os⟩ : Shared).TypeIs (.ref D) "list" := fun _ => ⟨_, hD, rfl⟩
  have hTs : ∀ t', (⟨hp, g, d, t', os⟩ : Shared).TypeIs (.ref sl) "slice" := fun _ => ⟨_, hsl, rfl⟩
  have hTe : ∀ t', (⟨hp, g, d, t', os⟩ : Shared).TypeIs (.ref e) "list" := fun _ => ⟨_, he, rfl⟩
  have f0 : (#[.none, .int 0 t, .none] : Array Value)[0]? = some .none := rfl
  have f1 : (#[.none, .int 0 t, .none] : Array Value)[1]? = some (.int 0 t) := rfl
  have f2 : (#[.none, .int 0 t, .none] : Array Value)[2]? = some .none := rfl
  have hdt : ({ cls := .type "slice", data := .fields #[.none, .int 0 t, .none] } : Obj).data = .fields #[.none, .int 0 t, .none] := rfl
  obtain ⟨ri, hri⟩ := int_index
  have hsame : Builtin.List.listSameRef (.ref D) (.ref e) = false := by
    show (D == e) = false
    simpa using hne
  unfold setItem
  try with_reducible refine wpAny_holding ?_
  refine wpAny_bind (wpAny_sequenceKey (hT _) (by decide) ?_)
  refine wpAny_bind (wpAny_callSpecial?_slot (name := Str.ofString "__setitem__") (hT _) slot_list_setitem
    (wpAny_call_entry slot_list_setitem (hT _) entry_list_setitem ?_ (args_list_setitem _ _ _)))
  unfold Builtin.«list.__setitem__»
  refine wpAny_bind (wpAny_pure ?_)
  dsimp only
  refine wpAny_bind ?_
  unfold Builtin.List.listSubscript?
  refine wpAny_bind (wpAny_specialOf (hTs _) slice_noindex ?_)
  simp only [Option.isNone_none, if_true]
  refine wpAny_pure ?_
  dsimp only
  refine wpAny_bind (wpAny_typeOf (hTs _) ?_)
  rw [if_neg (by decide +kernel)]
  refine wpAny_bind ?_
  unfold Builtin.List.listSliceParts
  refine wpAny_bind (m := field (.ref sl) 2) (wpAny_field hsl hdt f2 ?_)
  refine wpAny_bind (wpAny_of_eq (a := .none) (by rfl) ?_)
  rw [if_neg (by decide +kernel)]
  refine wpAny_bind (m := field (.ref sl) 0) (wpAny_field hsl hdt f0 ?_)
  refine wpAny_bind (wpAny_of_eq (a := .none) (by rfl) ?_)
  refine wpAny_bind (m := field (.ref sl) 1) (wpAny_field hsl hdt f1 ?_)
  refine wpAny_bind ?_
  dsimp only
  rw [if_neg (by simp)]
  refine wpAny_bind (wpAny_specialOf (typeIs_int _ _ _) hri ?_)
  simp only [Option.isNone_some, Bool.false_eq_true, if_false]
  refine wpAny_bind (wpAny_of_eq (a := (0 : Int)) (by rfl) (wpAny_pure (wpAny_pure ?_)))
  dsimp only
  simp only [hsame, Bool.false_eq_true, if_false]
  refine wpAny_bind ?_
  unfold Builtin.List.listAllItems
  refine wpAny_bind (wpAny_typeOf (hTe _) ?_)
  rw [if_pos (by decide +kernel)]
  unfold Builtin.List.listItems
  refine wpAny_bind (wpAny_seqItems he rfl (wpAny_pure ?_))
  refine wpAny_bind (wpAny_bind (wpAny_seqItems hD rfl (wpAny_pure ?_)))
  refine wpAny_bind (wpAny_of_eq (a := ((0 : Int), (0 : Int), (1 : Int))) ?ix ?_)
  case ix =>
    have e1 : min (0 : Int) (its.size : Int) = 0 := by omega
    show (pure (0, max 0 (min 0 (its.size : Int)), 1) : Sem (Int × Int × Int)) = pure (0, 0, 1)
    rw [e1]; rfl
  dsimp only
  rw [if_pos (by decide)]
  refine wpAny_bind (wpAny_rule ?_)
  have hfits : Builtin.List.listTooLong (its.size + (#[v] : Array Value).size) = false := by
    unfold Builtin.List.listTooLong
    simp [sizeLine_eq]; omega
  rw [hfits, if_neg (by decide)]
  show wpAny _ _ (updateSeq D (fun xs => xs.extract 0 0 ++ #[v] ++ xs.extract 0) >>= _) _ _ _
  have hm : Obj.mapSeq (fun xs => xs.extract 0 0 ++ #[v] ++ xs.extract 0) (listOf its n) = listOf (#[v] ++ its) (n + 1) := by
    simp [Obj.mapSeq]
  refine wpAny_bind (wpAny_updateSeq hD rfl ?_ (by rw [sizeLine_eq]; omega) (by simp [sizeLine_eq]; omega))
  refine wpAny_bind (wpAny_letGo ?_)
  refine wpAny_pure ⟨_, rfl, wpAny_pure (h _ (Heap.SameBut.update ..) ?_)⟩
  rw [Heap.get?_update_self _ hD (by rw [hm]; rfl), hm]
end
end Mine
end
-- ZP
section
open PySem PySem.W PyProof.Rows PySem.Spec PySem.Calls
set_option Elab.async false
set_option maxRecDepth 100000
set_option maxHeartbeats 4000000
namespace Mine
noncomputable abbrev zipO (TI TO : Addr) (f0 : Value) : Obj := { cls := .type "zip", dict := none, data := .fields #[f0, .bool false, .bool false, .ref TI, .ref TO], slots := #[] }
noncomputable abbrev tup2 (a b : Value) : Obj := { cls := .type "tuple", data := .seq #[a, b] }
theorem meets_zip_it (I l : Addr) (i : Nat) :
    Meets (Builtin.«zip.__new__» ⟨[.type "zip", .ref I, .ref I], []⟩) (fun _ R s => s.heap.IsListIter I l i ∧
      R (.ok (.ret (.ref ((s.heap.push (tup2 (.ref I) (.ref I))).push (tup2 .none .none)).objs.size))) { s with heap := ((s.heap.push (tup2 (.ref I) (.ref I))).push (tup2 .none .none)).push (zipO s.heap.objs.size (s.heap.push (tup2 (.ref I) (.ref I))).objs.size .none) }) :=
  .of_wp fun prog w A R s h => by
    obtain ⟨hp, g, d, tk, os⟩ := s; obtain ⟨hl, h⟩ := h
    have hsub := sub_zip
    have hL : Heap.IsListIter (Shared.heap ⟨hp, g, d, tk, os⟩) I l i := hl
    wp_walk using wpAny_pyIter_listiter hL
    exact ⟨_, rfl, h⟩
section
variable {prog : Program} {w : World} {A : Around} {E : Value → Shared → Prop} {s : Shared}
theorem call_zip_it {I l : Addr} {i : Nat} {Q : Value → Shared → Prop} (hl : s.heap.IsListIter I l i)
    (h : ∀ h' z TI TO, TI = s.heap.objs.size → TO = s.heap.objs.size + 1 → z = s.heap.objs.size + 2 → h'.get? z = some (zipO TI TO .none) → h'.get? TI = some (tup2 (.ref I) (.ref I)) → h'.get? TO = some (tup2 .none .none) →
      (∀ c o, s.heap.get? c = some o → h'.get? c = some o) → Q (.ref z) { s with heap := h' }) :
    wpAny (model prog w) A (call (.type "zip") [.ref I, .ref I]) Q E s := by
  refine callType_new PySem.F.called_zip (by decide) (PySem.F.typeCall_zip_2 _ _) (PySem.F.newCall_zip_2 _ _) (fun obj => PySem.F.args_object_init_3 obj _ _) PySem.F.entry_zip_new
    (meets_zip_it I l i) ⟨hl, ?_⟩
  have z1 : (s.heap.push (tup2 (.ref I) (.ref I))).objs.size = s.heap.objs.size + 1 := Heap.size_push ..
  have z2 : ((s.heap.push (tup2 (.ref I) (.ref I))).push (tup2 .none .none)).objs.size = s.heap.objs.size + 2 := by rw [Heap.size_push, z1]
  rw [z2, z1]
  have g2 : (((s.heap.push (tup2 (.ref I) (.ref I))).push (tup2 .none .none)).push (zipO s.heap.objs.size (s.heap.objs.size + 1) .none)).get? (s.heap.objs.size + 2) = some (zipO s.heap.objs.size (s.heap.objs.size + 1) .none) := by
    rw [← z2]; exact Heap.get?_push_size _ rfl
  have g1 : (((s.heap.push (tup2 (.ref I) (.ref I))).push (tup2 .none .none)).push (zipO s.heap.objs.size (s.heap.objs.size + 1) .none)).get? (s.heap.objs.size + 1) = some (tup2 .none .none) := by
    rw [← z1]; exact Heap.get?_push_of_some _ (Heap.get?_push_size _ rfl)
  have g0 : (((s.heap.push (tup2 (.ref I) (.ref I))).push (tup2 .none .none)).push (zipO s.heap.objs.size (s.heap.objs.size + 1) .none)).get? s.heap.objs.size = some (tup2 (.ref I) (.ref I)) :=
    Heap.get?_push_of_some _ (Heap.get?_push_of_some _ (Heap.get?_push_size _ rfl))
  exact ⟨⟨_, g2, rfl⟩, h _ _ _ _ rfl rfl rfl g2 g0 g1 fun c o e => Heap.get?_push_of_some _ (Heap.get?_push_of_some _ (Heap.get?_push_of_some _ e))⟩
theorem zipit_item {z TI TO I l : Addr} {k : Nat} {xs : Array Value} {x y a b : Value} {Q : Option Value → Shared → Prop} (h1 : l < I) (h2 : I < TI) (h3 : TI < TO) (h4 : TO < z)
    (hz : s.heap.get? z = some (zipO TI TO .none)) (hTI : s.heap.get? TI = some (tup2 (.ref I) (.ref I))) (hTO : s.heap.get? TO = some (tup2 a b)) (hI : s.heap.IsListIter I l k) (hl : SeqAt s.heap l xs) (hx : xs[k]? = some x) (hy : xs[k + 1]? = some y)
    (hQ : ∀ h', h'.get? z = some (zipO TI TO (rawInt s.heap.objs.size)) → h'.get? TO = some (tup2 x y) → h'.IsListIter I l (k + 2) → h'.get? s.heap.objs.size = some (tup2 x y) →
      (∀ c o, c ≠ z → c ≠ TO → c ≠ I → s.heap.get? c = some o → h'.get? c = some o) → Q (some (.ref s.heap.objs.size)) { s with heap := h' }) :
    wpAny (model prog w) A (pyNext (.ref z)) Q E s := by
  have hT : s.TypeIs (.ref z) "zip" := ⟨_, hz, rfl⟩
  have nTIz : TI ≠ z := Nat.ne_of_lt (Nat.lt_trans h3 h4)
  have nTOz : TO ≠ z := Nat.ne_of_lt h4
  have nIz : I ≠ z := Nat.ne_of_lt (Nat.lt_trans h2 (Nat.lt_trans h3 h4))
  have nlz : l ≠ z := Nat.ne_of_lt (Nat.lt_trans h1 (Nat.lt_trans h2 (Nat.lt_trans h3 h4)))
  have nTOI : TO ≠ I := Nat.ne_of_gt (Nat.lt_trans h2 h3)
  have nlI : l ≠ I := Nat.ne_of_lt h1
  have nlTO : l ≠ TO := Nat.ne_of_lt (Nat.lt_trans h1 (Nat.lt_trans h2 h3))
  unfold pyNext
  refine wpAny_bind (wpAny_attempt (wpAny_callSpecial?_slot (name := Str.ofString "__next__") hT PySem.F.slot_zip_next (wpAny_call_entry PySem.F.slot_zip_next hT PySem.F.entry_zip_next ?_ (PySem.F.args_zip_next_1 _))))
  show wpAny _ _ (field (.ref z) 2 >>= _) _ _ _
  refine wpAny_bind (wpAny_field hz rfl (x := .bool false) rfl ?_)
  show wpAny _ _ (field (.ref z) 3 >>= _) _ _ _
  refine wpAny_bind (wpAny_field hz rfl (x := .ref TI) rfl ?_)
  refine wpAny_bind (wpAny_seqItems hTI rfl ?_)
  show wpAny _ _ (Builtin.SmallTypes.ownedTupleIsFree (.ref z) >>= _) _ _ _
  refine wpAny_bind ?_
  unfold Builtin.SmallTypes.ownedTupleIsFree
  refine wpAny_bind (wpAny_field hz rfl (x := .none) rfl (wpAny_pure ?_))
  simp only [if_true]
  refine wpAny_bind (wpAny_rule ?_)
  refine wpAny_bind (wpAny_field hz rfl (x := .ref TO) rfl ?_)
  refine wpAny_bind (wpAny_setField_rec hz (by simp) fun h₁ hz₁ hs₁ => ?_)
  replace hz₁ : h₁.get? z = some (zipO TI TO .ellipsis) := hz₁
  refine wpAny_bind ?_
  simp only [List.zipIdx_cons, List.zipIdx_nil, List.forIn_cons, List.forIn_nil]
  refine wpAny_bind (wpAny_bind (wpAny_onRaise ?_))
  show wpAny _ _ (Builtin.SmallTypes.nextOf (.ref I) >>= _) _ _ _
  have hl₁ : SeqAt h₁ l xs := hl.at fun o e => hs₁.extBut _ _ nlz e
  refine wpAny_bind (nextOf_item (hI.extBut hs₁.extBut nIz) hl₁ hx fun h₂ hI₂ hs₂ => wpAny_pure ?_)
  have hTO₂ : IsPair h₂ TO a b := hs₂.extBut _ _ nTOI (hs₁.extBut _ _ nTOz hTO)
  refine wpAny_bind (wpAny_seqItems hTO₂ rfl ?_)
  refine wpAny_bind (wpAny_updateSeq_pair hTO₂ fun h₃ hTO₃ hs₃ => ?_)
  replace hTO₃ : IsPair h₃ TO x b := hTO₃
  refine wpAny_bind (wpAny_letGo (wpAny_pure ?_))
  refine wpAny_bind (wpAny_bind (wpAny_onRaise ?_))
  show wpAny _ _ (Builtin.SmallTypes.nextOf (.ref I) >>= _) _ _ _
  have hl₃ : SeqAt h₃ l xs := (hl₁.at fun o e => hs₂.extBut _ _ nlI e).at fun o e => hs₃.extBut _ _ nlTO e
  refine wpAny_bind (nextOf_item (hI₂.extBut hs₃.extBut (Ne.symm nTOI)) hl₃ hy fun h₄ hI₄ hs₄ => wpAny_pure ?_)
  have hTO₄ : IsPair h₄ TO x b := hs₄.extBut _ _ nTOI hTO₃
  refine wpAny_bind (wpAny_seqItems hTO₄ rfl ?_)
  refine wpAny_bind (wpAny_updateSeq_pair hTO₄ fun h₅ hTO₅ hs₅ => ?_)
  replace hTO₅ : IsPair h₅ TO x y := hTO₅
  refine wpAny_bind (wpAny_letGo (wpAny_pure (wpAny_pure ?_)))
  refine wpAny_bind (wpAny_seqItems hTO₅ rfl ?_)
  refine wpAny_bind (wpAny_newTuple ?_)
  have hsz : h₅.objs.size = s.heap.objs.size := by rw [hs₅.1, hs₄.1, hs₃.1, hs₂.1, hs₁.1]
  have hz₅ : h₅.get? z = some (zipO TI TO .ellipsis) := hs₅.extBut _ _ (Ne.symm nTOz) (hs₄.extBut _ _ (Ne.symm nIz) (hs₃.extBut _ _ (Ne.symm nTOz) (hs₂.extBut _ _ (Ne.symm nIz) hz₁)))
  have hk₅ : ∀ c o, c ≠ z → c ≠ TO → c ≠ I → s.heap.get? c = some o → h₅.get? c = some o := fun c o c1 c2 c3 e =>
    hs₅.extBut _ _ c2 (hs₄.extBut _ _ c3 (hs₃.extBut _ _ c2 (hs₂.extBut _ _ c3 (hs₁.extBut _ _ c1 e))))
  have hI₅ : h₅.IsListIter I l (k + 2) := hI₄.extBut hs₅.extBut (Ne.symm nTOI)
  have hzlt : z < h₅.objs.size := Heap.lt_size hz₅
  show wpAny _ _ (Builtin.SmallTypes.ownedTupleHandOut (.ref z) (.ref h₅.objs.size) >>= _) _ _ _
  refine wpAny_bind ?_
  unfold Builtin.SmallTypes.ownedTupleHandOut
  have hz₆ : (h₅.push { cls := .type "tuple", data := .seq #[x, y] }).get? z = some (zipO TI TO .ellipsis) := Heap.get?_push_of_some _ hz₅
  refine wpAny_bind (wpAny_setField_rec hz₆ (by simp) fun h₇ hz₇ hs₇ => ?_)
  replace hz₇ : h₇.get? z = some (zipO TI TO (rawInt h₅.objs.size)) := hz₇
  refine wpAny_setField_rec hz₇ (by simp) fun h₈ hz₈ hs₈ => ?_
  replace hz₈ : h₈.get? z = some (zipO TI TO (rawInt h₅.objs.size)) := hz₈
  have up : ∀ c o, c ≠ z → h₅.get? c = some o → h₈.get? c = some o := fun c o c1 e => hs₈.extBut _ _ c1 (hs₇.extBut _ _ c1 (Heap.get?_push_of_some _ e))
  have hT₈ : h₈.get? h₅.objs.size = some (tup2 x y) := hs₈.extBut _ _ (Nat.ne_of_gt hzlt) (hs₇.extBut _ _ (Nat.ne_of_gt hzlt) (Heap.get?_push_size _ rfl))
  rw [hsz] at hz₈ hT₈
  refine wpAny_pure ⟨_, rfl, wpAny_pure ?_⟩
  show Q (some (.ref h₅.objs.size)) _
  rw [hsz]
  exact hQ h₈ hz₈ (up _ _ nTOz hTO₅) (hI₅.at fun o e => up _ o nIz e) hT₈ fun c o c1 c2 c3 e => up c o c1 (hk₅ c o c1 c2 c3 e)
theorem zipit_end {z TI TO I l : Addr} {k : Nat} {xs : Array Value} {a b : Value} {Q : Option Value → Shared → Prop} (hh : A.handled = none) (h1 : l < I) (h2 : I < TI) (h3 : TI < TO) (h4 : TO < z)
    (hz : s.heap.get? z = some (zipO TI TO .none)) (hTI : s.heap.get? TI = some (tup2 (.ref I) (.ref I))) (hTO : s.heap.get? TO = some (tup2 a b)) (hI : s.heap.IsListIter I l k) (hl : SeqAt s.heap l xs) (hx : xs[k]? = none)
    (hQ : ∀ h', (∀ c o, c ≠ z → c ≠ TO → c ≠ I → s.heap.get? c = some o → h'.get? c = some o) → Q none { s with heap := h' }) :
    wpAny (model prog w) A (pyNext (.ref z)) Q E s := by
  have hT : s.TypeIs (.ref z) "zip" := ⟨_, hz, rfl⟩
  have nIz : I ≠ z := Nat.ne_of_lt (Nat.lt_trans h2 (Nat.lt_trans h3 h4))
  have nlz : l ≠ z := Nat.ne_of_lt (Nat.lt_trans h1 (Nat.lt_trans h2 (Nat.lt_trans h3 h4)))
  unfold pyNext
  refine wpAny_bind (wpAny_attempt (wpAny_callSpecial?_slot (name := Str.ofString "__next__") hT PySem.F.slot_zip_next (wpAny_call_entry PySem.F.slot_zip_next hT PySem.F.entry_zip_next ?_ (PySem.F.args_zip_next_1 _))))
  show wpAny _ _ (field (.ref z) 2 >>= _) _ _ _
  refine wpAny_bind (wpAny_field hz rfl (x := .bool false) rfl ?_)
  show wpAny _ _ (field (.ref z) 3 >>= _) _ _ _
  refine wpAny_bind (wpAny_field hz rfl (x := .ref TI) rfl ?_)
  refine wpAny_bind (wpAny_seqItems hTI rfl ?_)
  show wpAny _ _ (Builtin.SmallTypes.ownedTupleIsFree (.ref z) >>= _) _ _ _
  refine wpAny_bind ?_
  unfold Builtin.SmallTypes.ownedTupleIsFree
  refine wpAny_bind (wpAny_field hz rfl (x := .none) rfl (wpAny_pure ?_))
  simp only [if_true]
  refine wpAny_bind (wpAny_rule ?_)
  refine wpAny_bind (wpAny_field hz rfl (x := .ref TO) rfl ?_)
  refine wpAny_bind (wpAny_setField_rec hz (by simp) fun h₁ hz₁ hs₁ => ?_)
  replace hz₁ : h₁.get? z = some (zipO TI TO .ellipsis) := hz₁
  refine wpAny_bind ?_
  simp only [List.zipIdx_cons, List.zipIdx_nil, List.forIn_cons, List.forIn_nil]
  refine wpAny_bind (wpAny_bind (wpAny_onRaise ?_))
  show wpAny _ _ (Builtin.SmallTypes.nextOf (.ref I) >>= _) _ _ _
  refine wpAny_bind (nextOf_end hh (hI.extBut hs₁.extBut nIz) (hl.at fun o e => hs₁.extBut _ _ nlz e) hx fun h₂ e hs₂ he => ?_)
  obtain ⟨oe, hoe, hce⟩ := he
  have hz₂ : h₂.get? z = some (zipO TI TO .ellipsis) := hs₂ _ _ (Ne.symm nIz) hz₁
  have hez : e ≠ z := fun x => by subst x; rw [hz₂] at hoe; cases hoe; simp at hce
  refine wpAny_setField_rec hz₂ (by simp) fun h₃ _ hs₃ => ?_
  refine wpAny_bind (wpAny_isInstance (T := "StopIteration") (b := true) ⟨oe, hs₃.extBut _ _ hez hoe, hce⟩ isSubtype_stop ?_)
  exact wpAny_pure (hQ _ fun c o c1 _ c3 x => hs₃.extBut _ _ c1 (hs₂ _ _ c3 (hs₁.extBut _ _ c1 x)))
end
end Mine
end
-- ZL
section
open PySem PySem.W PyProof.Rows PySem.Spec PySem.Calls
set_option Elab.async false
set_option maxRecDepth 100000
set_option maxHeartbeats 4000000
namespace Mine
theorem fr_step {h₀ h h' : Heap} {L : Addr} {m : Str → Option Value} (cs : List Addr) (F : Fr h₀ L h m) (hk : ∀ c o, c ∉ cs → h.get? c = some o → h'.get? c = some o) (hc : ∀ c ∈ cs, c ≠ L ∧ h₀.get? c = none) : Fr h₀ L h' m := by
  obtain ⟨oL, es, ep, hL, r⟩ := F.ns
  exact ⟨⟨oL, es, ep, hk _ _ (fun hm => (hc _ hm).1 rfl) hL, r⟩, fun b x q => hk _ _ (fun hm => by rw [(hc _ hm).2] at q; cases q) (F.keep b x q), F.above⟩
theorem news_step {h₀ h h' : Heap} {L : Addr} {news : List (Addr × Obj)} (cs : List Addr) (N : News h₀ L h news) (hk : ∀ c o, c ∉ cs → h.get? c = some o → h'.get? c = some o) (hd : ∀ p ∈ news, p.1 ∉ cs) : News h₀ L h' news :=
  fun p hp => ⟨hk _ _ (hd p hp) (N p hp).1, (N p hp).2⟩
theorem fresh_at {h₀ h : Heap} {L : Addr} {m : Str → Option Value} (F : Fr h₀ L h m) {z : Addr} (hz : h.objs.size ≤ z) : z ≠ L ∧ h₀.get? z = none := by
  obtain ⟨oL, es, ep, hL, r⟩ := F.ns
  refine ⟨fun e => ?_, ?_⟩
  · subst e
    exact absurd (Heap.lt_size hL) (Nat.not_lt.mpr hz)
  · cases e : h₀.get? z with
    | none => rfl
    | some o => exact absurd (Heap.lt_size (F.keep _ _ e)) (Nat.not_lt.mpr hz)
theorem fr_set {h₀ h h' : Heap} {L : Addr} {m m' : Str → Option Value} (F : Fr h₀ L h m) (hn : h'.Ns L m') (hk : ∀ c o, c ≠ L → h.get? c = some o → h'.get? c = some o) : Fr h₀ L h' m' :=
  ⟨hn, fun b x q => hk _ _ (Nat.ne_of_lt (Nat.lt_of_lt_of_le (Heap.lt_size q) F.above)) (F.keep b x q), F.above⟩
theorem news_set' {h₀ h h' : Heap} {L : Addr} {news : List (Addr × Obj)} (N : News h₀ L h news) (hk : ∀ c o, c ≠ L → h.get? c = some o → h'.get? c = some o) : News h₀ L h' news :=
  fun p hp => ⟨hk _ _ (N p hp).2.1 (N p hp).1, (N p hp).2⟩
theorem fr_two {h₀ h : Heap} {L : Addr} {m0 : Str → Option Value} {a b : Str} {x y ox oy : Option Value} (F : Fr h₀ L h (fun z => if z = b then y else if z = a then x else (if z = b then oy else if z = a then ox else m0 z))) :
    Fr h₀ L h (fun z => if z = b then y else if z = a then x else m0 z) := by
  have e : (fun z => if z = b then y else if z = a then x else (if z = b then oy else if z = a then ox else m0 z)) = (fun z => if z = b then y else if z = a then x else m0 z) := by
    funext z
    by_cases h1 : z = b
    · simp only [if_pos h1]
    · by_cases h2 : z = a
      · simp only [if_neg h1, if_pos h2]
      · simp only [if_neg h1, if_neg h2]
  rw [e] at F; exact F
theorem fr_own {h₀ h : Heap} {L : Addr} {m0 : Str → Option Value} (a b : Str) (F : Fr h₀ L h m0) :
    Fr h₀ L h (fun z => if z = b then m0 b else if z = a then m0 a else m0 z) := by
  have e : (fun z => if z = b then m0 b else if z = a then m0 a else m0 z) = m0 := by
    funext z
    by_cases h1 : z = b
    · rw [if_pos h1, h1]
    · by_cases h2 : z = a
      · rw [if_neg h1, if_pos h2, h2]
      · rw [if_neg h1, if_neg h2]
  rw [e]; exact F
/-- the parts, two by two -/
noncomputable def twos : List (List Nat) → List (List Nat × List Nat)
  | a :: b :: r => (a, b) :: twos r
  | _ => []
noncomputable abbrev iterO (l : Addr) (i : Nat) : Obj := { cls := .type "list_iterator", data := .fields #[.ref l, .int i 0] }
theorem StrsA.at {vs : List Value} {xs : List (List Nat)} (h : StrsA vs xs) : ∀ {i : Nat} {x : List Nat}, xs[i]? = some x → ∃ t, vs[i]? = some (.str (S x) t) := by
  induction h with
  | nil => intro i x e; simp at e
  | @cons x' t' vs' xs' _ ih =>
    intro i x e
    cases i with
    | zero => simp at e; subst e; exact ⟨t', by simp⟩
    | succ i => simp at e; obtain ⟨t, h⟩ := ih e; exact ⟨t, by simpa using h⟩
theorem PairsIn.len {news : List (Addr × Obj)} : ∀ {vs : List Value} {xs : List (List Nat × List Nat)}, PairsIn news vs xs → vs.length = xs.length
  | [], [], _ => rfl
  | [], _ :: _, h => h.elim
  | _ :: _, [], h => h.elim
  | _ :: _, (_, _) :: _, ⟨_, h⟩ => congrArg (· + 1) (PairsIn.len h)
theorem tlen_app (a b : List (List Nat × List Nat)) : tlen (a ++ b) = tlen a + tlen b := by simp [tlen]
theorem twos_len : ∀ ys : List (List Nat), (twos ys).length ≤ ys.length
  | [] => Nat.le_refl _
  | [_] => Nat.zero_le _
  | _ :: _ :: r => by have := twos_len r; simp only [twos, List.length_cons]; omega
theorem twos_tlen : ∀ ys : List (List Nat), tlen (twos ys) ≤ ys.flatten.length
  | [] => Nat.le_refl _
  | [_] => Nat.zero_le _
  | a :: b :: r => by
    have := twos_tlen r
    simp only [twos, tlen, List.map_cons, List.sum_cons, List.flatten_cons, List.length_append] at this ⊢
    omega
section
variable {prog : Program} {w : World} {A : Around}
structure BodyEnd (h₀ : Heap) (L : Addr) (d : Drawn) (os : OsState) (m : Str → Option Value) (own : List (Addr × Obj)) (cs : List Addr) (J : List (Addr × Obj) → Array GenState → Prop) (f : Flow) (s : Shared) : Prop where
  ex : f = .next ∧ ∃ h g tk news, s = ⟨h, g, d, tk, os⟩ ∧ Fr h₀ L h m ∧ News h₀ L h (own ++ news) ∧ J news g ∧ (∀ p ∈ news, p.1 ∉ cs)
theorem zip_turns {env : Env} {a b : Str} {pa pb tp : Pos} {kk : Nat} {body : List Stmt} {z TI TO I l : Addr} {es : Array Value} {n : Nat} {ys : List (List Nat)} {R : Result → Shared → Prop} {h₀ : Heap} {m0 : Str → Option Value} {d : Drawn} {os : OsState}
    (hh : A.handled = none) (ha : env.kindOf a = some .local) (hb : env.kindOf b = some .local) (hp : (env.scope.kind == .class || (env.scope.kind == .module && env.locals != env.globals)) = false)
    (h1 : l < I) (h2 : I < TI) (h3 : TI < TO) (h4 : TO < z) (hes : StrsA es.toList ys) (hev : ys.length % 2 = 0)
    (J : List (List Nat × List Nat) → List (Addr × Obj) → Array GenState → Prop) (hJ : ∀ done news g, J done news g → (l, listOf es n) ∈ news)
    (step : ∀ done p q r t u news g h tk oI (E' : Value → Shared → Prop), done ++ (p, q) :: r = twos ys → J done news g → (∀ p ∈ news, p.1 ∉ [z, TO, I]) → Fr h₀ env.locals h (fun y => if y = b then some (.str (S q) u) else if y = a then some (.str (S p) t) else m0 y) →
      News h₀ env.locals h ([(z, zipO TI TO .none), (TO, tup2 (.str (S p) t) (.str (S q) u)), (I, oI), (TI, tup2 (.ref I) (.ref I))] ++ news) →
      wpAny (model prog w) A (execs body env) (BodyEnd h₀ env.locals d os (fun y => if y = b then some (.str (S q) u) else if y = a then some (.str (S p) t) else m0 y) [(z, zipO TI TO .none), (TO, tup2 (.str (S p) t) (.str (S q) u)), (I, oI), (TI, tup2 (.ref I) (.ref I))] [z, TO, I] (J (done ++ [(p, q)]))) E' ⟨h, g, d, tk, os⟩)
    (hR : ∀ h g tk news m', J (twos ys) news g → Fr h₀ env.locals h m' → News h₀ env.locals h news → R (.ok .next) ⟨h, g, d, tk, os⟩)
    {h : Heap} {g : Array GenState} {tk : Nat} {news : List (Addr × Obj)} {x0 y0 : Value} (J0 : J [] news g) (d0 : ∀ p ∈ news, p.1 ∉ [z, TO, I]) (F : Fr h₀ env.locals h m0)
    (N : News h₀ env.locals h ([(z, zipO TI TO .none), (TO, tup2 x0 y0), (I, iterO l 0), (TI, tup2 (.ref I) (.ref I))] ++ news)) :
    codeAny (model prog w) A (.forLoop (.Tuple [.Name a pa, .Name b pb] kk tp) (.ref z) body [] env) R ⟨h, g, d, tk, os⟩ := by
  have hTOI : TO ≠ I := Nat.ne_of_gt (Nat.lt_trans h2 h3)
  have hzI : z ≠ I := Nat.ne_of_gt (Nat.lt_trans h2 (Nat.lt_trans h3 h4))
  have hzTO : z ≠ TO := Nat.ne_of_gt h4
  refine codeAny_forLoop_any (fun k s' => ∃ i done news g h tk x y ox oy oI, (oI.cls = .type "list_iterator" ∧ oI.data = .fields #[.ref l, .int (2 * i : Nat) 0]) ∧ s' = ⟨h, g, d, tk, os⟩ ∧ J done news g ∧ done ++ twos (ys.drop (2 * i)) = twos ys ∧ k = ys.length - 2 * i ∧ (∀ p ∈ news, p.1 ∉ [z, TO, I]) ∧
      Fr h₀ env.locals h (fun y => if y = b then oy else if y = a then ox else m0 y) ∧ News h₀ env.locals h ([(z, zipO TI TO .none), (TO, tup2 x y), (I, oI), (TI, tup2 (.ref I) (.ref I))] ++ news)) ?_ ys.length
    ⟨0, [], news, g, h, tk, x0, y0, _, _, _, ⟨rfl, rfl⟩, rfl, J0, rfl, rfl, d0, fr_own a b F, N⟩
  rintro k s' ⟨i, done, news, g, h, tk, x, y, ox, oy, oI0, hoI0, rfl, hj, hd, rfl, hdis, F, N⟩
  have gz := N (z, _) (.head _)
  have gTO := N (TO, _) (.tail _ (.head _))
  have gI := N (I, _) (.tail _ (.tail _ (.head _)))
  have gTI := N (TI, _) (.tail _ (.tail _ (.tail _ (.head _))))
  have gl := N (l, _) (.tail _ (.tail _ (.tail _ (.tail _ (hJ _ _ _ hj)))))
  have hIt : h.IsListIter I l (2 * i) := ⟨_, gI.1, hoI0⟩
  have hSq : SeqAt h l es := ⟨_, n, gl.1, rfl⟩
  have hlen := hes.len
  have own : ∀ c ∈ [z, TO, I], c ≠ env.locals ∧ h₀.get? c = none := by
    intro c hc
    simp only [List.mem_cons, List.not_mem_nil, or_false] at hc
    rcases hc with rfl | rfl | rfl
    · exact gz.2
    · exact gTO.2
    · exact gI.2
  by_cases hlt : 2 * i < ys.length
  · have hlt1 : 2 * i + 1 < ys.length := by omega
    have e0 := List.getElem?_eq_getElem hlt
    have e1 := List.getElem?_eq_getElem hlt1
    generalize ys[2 * i] = p at e0
    generalize ys[2 * i + 1] = q at e1
    obtain ⟨t, f0⟩ := hes.at e0
    obtain ⟨u, f1⟩ := hes.at e1
    have hdrop : ys.drop (2 * i) = p :: q :: ys.drop (2 * (i + 1)) := by
      rw [List.drop_eq_getElem_cons hlt, List.drop_eq_getElem_cons hlt1]
      rw [List.getElem?_eq_getElem hlt] at e0
      rw [List.getElem?_eq_getElem hlt1] at e1
      rw [Option.some.inj e0, Option.some.inj e1]
      rfl
    rw [hdrop] at hd
    refine zipit_item h1 h2 h3 h4 gz.1 gTI.1 gTO.1 hIt hSq (by rw [← Array.getElem?_toList]; exact f0) (by rw [← Array.getElem?_toList]; exact f1) fun h' hz' hTO' hI' hT' hk' => ?_
    dsimp only
    have hkc : ∀ c o, c ∉ [z, TO, I] → h.get? c = some o → h'.get? c = some o := fun c o hc e => hk' c o (fun x => hc (by simp [x])) (fun x => hc (by simp [x])) (fun x => hc (by simp [x])) e
    have F' := fr_step [z, TO, I] F hkc own
    have zT : z ≠ h.objs.size := Nat.ne_of_lt (Heap.lt_size gz.1)
    refine wpAny_letOwnedTupleGo_zip hz' fun h2' hz2 hs2 => ?_
    have F2 := F'.change hs2 gz.2.1 gz.2.2
    refine kcp_assign (m := fun y => if y = b then oy else if y = a then ox else m0 y) hh ⟨_, hs2.extBut _ _ (Ne.symm zT) hT', rfl, 0, rfl⟩ ha hb hp F2.ns fun h3' tk3 hn3 hk3 => ?_
    have F3 := fr_two (fr_set F2 hn3 hk3)
    have up : ∀ c o, c ≠ env.locals → c ≠ z → h'.get? c = some o → h3'.get? c = some o := fun c o c1 c2 e => hk3 c o c1 (hs2.extBut _ _ c2 e)
    obtain ⟨oI, hoI, hcI, hdI⟩ := hI'
    have N3 : News h₀ env.locals h3' ([(z, zipO TI TO .none), (TO, tup2 (.str (S p) t) (.str (S q) u)), (I, oI), (TI, tup2 (.ref I) (.ref I))] ++ news) := by
      have nT : (TI ≠ z ∧ TI ≠ TO) ∧ TI ≠ I := ⟨⟨Nat.ne_of_lt (Nat.lt_trans h3 h4), Nat.ne_of_lt h3⟩, Nat.ne_of_gt h2⟩
      intro r hr
      rcases List.mem_append.mp hr with hr | hr
      · simp only [List.mem_cons, List.not_mem_nil, or_false] at hr
        rcases hr with rfl | rfl | rfl | rfl
        · exact ⟨hk3 _ _ gz.2.1 hz2, gz.2⟩
        · exact ⟨up _ _ gTO.2.1 (Ne.symm hzTO) hTO', gTO.2⟩
        · exact ⟨up _ _ gI.2.1 (Ne.symm hzI) hoI, gI.2⟩
        · exact ⟨up _ _ gTI.2.1 nT.1.1 (hk' _ _ nT.1.1 nT.1.2 nT.2 gTI.1), gTI.2⟩
      · have gr := N r (List.mem_append.mpr (.inr hr))
        exact ⟨up _ _ gr.2.1 (fun x => hdis r hr (by simp [x])) (hkc _ _ (hdis r hr) gr.1), gr.2⟩
    refine wpAny_mono (step done p q (twos (ys.drop (2 * (i + 1)))) t u news g h3' tk3 oI _ hd hj hdis F3 N3) ?_ (fun _ _ x => x)
    rintro f s3 ⟨rfl, h4', g4, tk4, news4, rfl, F4, N4, J4, d4⟩
    dsimp only
    exact ⟨ys.length - 2 * (i + 1), by omega, i + 1, _, news4, g4, h4', tk4, _, _, _, _, oI, ⟨hcI, hdI⟩, rfl, J4, by rw [List.append_assoc]; exact hd, rfl, d4, F4, N4⟩
  · have e0 : es[2 * i]? = none := by
      rw [← Array.getElem?_toList]
      exact List.getElem?_eq_none (by omega)
    refine zipit_end hh h1 h2 h3 h4 gz.1 gTI.1 gTO.1 hIt hSq e0 fun h' hk' => ?_
    dsimp only
    have hkc : ∀ c o, c ∉ [z, TO, I] → h.get? c = some o → h'.get? c = some o := fun c o hc e => hk' c o (fun x => hc (by simp [x])) (fun x => hc (by simp [x])) (fun x => hc (by simp [x])) e
    have F' := fr_step [z, TO, I] F hkc own
    have N' := news_step [z, TO, I] (news_sub N (fun p hp => List.mem_append.mpr (.inr hp))) hkc hdis
    have hd' : done = twos ys := by
      rw [List.drop_eq_nil_of_le (by omega)] at hd
      simpa [twos] using hd
    subst hd'
    rw [execs_nil]
    exact wpAny_pure (hR _ _ _ _ _ hj F' N')
end
end Mine
end
-- PA
section
open PySem PySem.W PyProof.Rows PySem.Spec PySem.Calls
set_option Elab.async false
namespace Mine
noncomputable def hpairs (W : List Nat) : List (List Nat × List Nat) := match rxF W.length W with
  | [] => []
  | p :: r => if p = [] then twos r else ([], p) :: twos r
theorem rxF_odd : ∀ (n : Nat) (l : List Nat), (rxF n l).length % 2 = 1
  | 0, l => rfl
  | n + 1, l => by
    show (if (l.dropWhile fun c => !bl c) = [] then _ else _ : List (List Nat)).length % 2 = 1
    split
    · rfl
    · have := rxF_odd n ((l.dropWhile fun c => !bl c).dropWhile bl)
      simp only [List.length_cons]; omega
theorem dw_len (f : Nat → Bool) : ∀ l : List Nat, (l.dropWhile f).length ≤ l.length
  | [] => Nat.le_refl _
  | a :: r => by
    have := dw_len f r
    simp only [List.dropWhile]
    split
    · simp only [List.length_cons]; omega
    · exact Nat.le_refl _
theorem dw_head (f : Nat → Bool) : ∀ (l : List Nat) {c : Nat} {r : List Nat}, l.dropWhile f = c :: r → f c = false
  | [], _, _, e => by simp at e
  | a :: l, c, r, e => by
    simp only [List.dropWhile] at e
    split at e
    · exact dw_head f l e
    · rename_i h
      cases e
      exact h
theorem rxF_step (n : Nat) (l : List Nat) : rxF (n + 1) l = [l] ∧ l.dropWhile (fun c => !bl c) = [] ∨ ∃ c q, l.dropWhile (fun c => !bl c) = c :: q ∧ bl c = true ∧
    rxF (n + 1) l = l.takeWhile (fun c => !bl c) :: (c :: q).takeWhile bl :: rxF n ((c :: q).dropWhile bl) ∧ ((c :: q).dropWhile bl).length < l.length := by
  cases e : l.dropWhile (fun c => !bl c) with
  | nil => exact .inl ⟨by simp only [rxF]; rw [if_pos e], rfl⟩
  | cons c q =>
    have hc := dw_head _ _ e
    have hb : bl c = true := by simpa using hc
    refine .inr ⟨c, q, rfl, hb, by simp only [rxF]; rw [if_neg (by rw [e]; exact List.cons_ne_nil _ _), e], ?_⟩
    have h1 := dw_len (fun c => !bl c) l
    rw [e] at h1
    have h2 := dw_len bl q
    simp only [List.dropWhile, hb, List.length_cons] at h1 ⊢
    omega
theorem rxF_flat : ∀ (n : Nat) (l : List Nat), l.length ≤ n → (rxF n l).flatten = l
  | 0, l, h => by simp [rxF]
  | n + 1, l, h => by
    rcases rxF_step n l with ⟨e, _⟩ | ⟨c, q, e, hb, e2, hl⟩
    · rw [e]; simp
    · rw [e2, List.flatten_cons, List.flatten_cons, rxF_flat n _ (by omega), List.takeWhile_append_dropWhile, ← e, List.takeWhile_append_dropWhile]
/-- what a walk over the parts needs -/
theorem parts_ok {W : List Nat} {p0 : List Nat} {r0 ys : List (List Nat)} (hW : W.length ≤ 100) (h : rxF W.length W = p0 :: r0) (hys : ys = if p0 = [] then r0 else [] :: p0 :: r0) :
    hpairs W = twos ys ∧ r0.length + 1 ≤ 300 ∧ p0.length ≤ 100 ∧ ys.length % 2 = 0 ∧ tlen (twos ys) ≤ 1000 ∧ (twos ys).length ≤ 300 := by
  have h1 := rxF_len W.length W
  have h2 := rxF_odd W.length W
  have h3 := rxF_flat W.length W (Nat.le_refl _)
  rw [h] at h1 h2 h3
  have h4 := congrArg List.length h3
  rw [List.flatten_cons, List.length_append] at h4
  simp only [List.length_cons] at h1 h2
  have hq := twos_tlen ys
  have hl := twos_len ys
  have hpq : hpairs W = twos ys := by
    unfold hpairs
    rw [h, hys]
    dsimp only
    split <;> rfl
  have hy : ys.length % 2 = 0 ∧ ys.length ≤ 202 ∧ ys.flatten.length ≤ 100 := by
    rw [hys]
    split
    · exact ⟨by omega, by omega, by omega⟩
    · simp only [List.length_cons, List.flatten_cons, List.length_append, List.length_nil]
      exact ⟨by omega, by omega, by omega⟩
  exact ⟨hpq, by omega, by omega, hy.1, by omega, by omega⟩
end Mine
end
-- E_ascii
section
open PySem PySem.W PyProof.Rows PySem.Spec PySem.Calls
set_option Elab.async false
set_option maxRecDepth 100000
set_option maxHeartbeats 16000000
namespace Mine
theorem callWith_typeS {M : Model} {A : Around} {E : Value → Shared → Prop} {s : Shared} {env : Env} {pos p : Pos} {T : String} {Q : Value → Shared → Prop} {e : Expr}
    (h : wpAny M A (eval e env) (fun v s₁ => StarOf M A E v (fun vs s₂ => True ∧ wpAny M A (call (.type T) ([] ++ vs)) Q E s₂) s₁) E s)
    (he : starEach [.Starred e p] env = [(true, eval e env)] := by rfl) :
    wpAny M A (callWith pos (.type T) [] (backTo pos (starEach [.Starred e p] env)) []) Q E s := by
  rw [he]
  exact ks_call (P := fun _ => True) rfl (fun h _ => ⟨.machine, .inr (.inl rfl), .now⟩) (ks_lone h)
theorem iter_list {prog : Program} {w : World} {A : Around} {E : Value → Shared → Prop} {s : Shared} {h₀ : Heap} {L l : Addr} {m : Str → Option Value} {news : List (Addr × Obj)} {its : Array Value} {n : Nat} {Q : Value → Shared → Prop} (F : Fr h₀ L s.heap m) (N : News h₀ L s.heap news) (hp : (l, listOf its n) ∈ news)
    (h : ∀ (I : Addr) h', Fr h₀ L h' m → News h₀ L h' ((I, { cls := .type "list_iterator", data := .fields #[.ref l, .int 0 0] }) :: news) → AllLt I news → Q (.ref I) { s with heap := h' }) :
    wpAny (model prog w) A (call (.builtin "iter") [.ref l]) Q E s := by
  refine call_function_entry (by decide +kernel) (by decide +kernel) kdk_entry_iter (kdk_args_iter _) ?_
  unfold Builtin.«iter»
  refine wpAny_bind (m := someArgs "iter" 1 2 _) (wpAny_of_eq (a := [Value.ref l]) (by first | rfl | kernel_rfl!) ?_)
  show wpAny _ _ (pyIter (.ref l) >>= _) _ _ _
  refine wpAny_bind (wpAny_pyIter_list (News.isList N hp) ?_)
  exact wpAny_pure ⟨_, rfl, h _ _ (F.push _) (News.push F N _ rfl) (allLt_of (news_lt N))⟩
structure JoinedA (hg : Heap) (L' : Addr) (m : Str → Option Value) (D : Addr) (rest : List (Addr × Obj)) (g : Array GenState) (d : Drawn) (os : OsState) (P : Obj → Prop) (f : Flow) (s' : Shared) : Prop where
  ex : f = .next ∧ ∃ h7 o7 tk7, Fr hg L' h7 m ∧ News hg L' h7 ((D, o7) :: rest) ∧ P o7 ∧ s' = ⟨h7, g, d, tk7, os⟩
theorem join_at {prog : Program} {w : World} {A : Around} {m : Str → Option Value} {hg h : Heap} {L' D : Addr} {o : Obj} {rest : List (Addr × Obj)} {g : Array GenState} {d : Drawn} {os : OsState} {tk : Nat} {E : Value → Shared → Prop} {t : Sem Flow} {Q : Flow → Shared → Prop}
    (F : Fr hg L' h m) (N : News hg L' h ((D, o) :: rest)) (P : Obj → Prop)
    (h1 : wpAny (model prog w) A t (JoinedA hg L' m D rest g d os P) E ⟨h, g, d, tk, os⟩)
    (h2 : ∀ h7 o7 tk7, Fr hg L' h7 m → News hg L' h7 ((D, o7) :: rest) → P o7 → Q .next ⟨h7, g, d, tk7, os⟩) : wpAny (model prog w) A t Q E ⟨h, g, d, tk, os⟩ :=
  wpAny_mono h1 (by rintro f s' ⟨⟨rfl, h7, o7, tk7, a, b, c, rfl⟩⟩; exact h2 _ _ _ a b c) (fun _ _ x => x)
theorem c_ascii {w : World} {p : Program} {loose : List Str} {mean : ExcName → Option Value} {mg mb : Str → Option Value} {news : List (Addr × Obj)} {φ : Fmt} {c : Nat} {tb : Obj} (W : List Nat) (hW : W.length ≤ 100) (t0 t1 t2 : Tok) :
  ∀ (cn : Str) (nm : List (Str × NameKind)) (mr : List (Str × Const)) (a : Addr) (ccd : Value) (cl : List (Str × Addr)) (outer : List Env) (A₀ : Around) (base h₀ : Heap) (L : Addr) (m : Str → Option Value) (s : Shared) (Q E : Value → Shared → Prop),
    Below A₀ base outer h₀ → Fr h₀ L s.heap m → (hd.heap_1 w.params).In h₀ → News h₀ L s.heap (FmtNews w φ tb #[] c news) → Top p loose mean mg mb h₀ → CodeHd base 166 162 → TabW tb → AllBare s.gens → φ.Ord → (∀ q ∈ news, q.1 < φ.df) → (∀ q ∈ news, q.1 ≠ 162) →
    (∀ (tb' : Obj) (vs : Array Value) (c' : Nat) (ts : List (Addr × Obj)) (h' : Heap) (g' : Array GenState) (tk' : Nat), TabW tb' → AllBare g' → (∀ q ∈ ts, φ.x < q.1) → PairsIn ts vs.toList (hpairs W) → Fr h₀ L h' m → News h₀ L h' (FmtNews w φ tb' vs c' (ts ++ news)) → Q .none ⟨h', g', s.drawn, tk', s.os⟩) →
      wpAny (model PySem.Challenge.rw_wu0094_01.row.prog w) (ktrTop 500 2000 (some []) cn (fsc nm mr) L a ccd cl outer) (call (.ref 106) [.ref φ.fm, .str "" t0, .str (S W) t1, .str "" t2]) Q E s := by
  k_fill
  k_with_none
  (k_with "getMethod ref" => (k_here; (with_reducible show wpAny _ _ (getMethod _ (PySem.Str.ofString "split") _) _ _ _); k_dflt (refine' getMethod_builtin (T := "re.Pattern") ⟨_, Frag.In.keeps (by k_asm) (Fr.keep (by k_asm)) _ _ (by k_is), rfl⟩ pa_re slot_rsplit type_rsplit (fun a e => by cases e; exact ⟨_, Frag.In.keeps (by k_asm) (Fr.keep (by k_asm)) _ _ (by k_is), rfl⟩) ?_)))
  intro cn nm mr a ccd cl outer A₀ base h₀ L m s Q E B F K N TT C hT G hO hlow h162 hret
  simp only [FmtNews, FmtTl] at N
  dsimp only [Fmt.Ord] at hO
  have hWl := S_len W
  refine wpAny_call ?_
  k_dflt k_enter
  (k_with "call builtin:re.Pattern.split" => refine halt ?_)
  (k_with "exec If" => refine halt ?_)
  k_steps
  refine unhalt ?_
  (k_with "call builtin:re.Pattern.split" => fail)
  rename Fr _ _ _ _ => F5
  rename News _ _ _ _ => N5
  rename Frag.In _ _ => K5
  have hS : (Str.ofString "" ++ S W) = S W := by
    rw [show Str.ofString "" = S [] from rfl, S_app, List.nil_append]
  rw [hS]
  refine rsplit_run (K5.keeps F5.keep _ _ (by k_is)) rfl rfl (K5.keeps F5.keep _ _ (by k_is)) rfl (by omega) ?_
  intro ps tk5 hps
  obtain ⟨p0, r0, hr0⟩ : ∃ p0 r0, rxF W.length W = p0 :: r0 := by
    cases W.length <;> simp only [rxF] <;> (try split) <;> exact ⟨_, _, rfl⟩
  rw [hr0] at hps
  obtain ⟨ys, hys⟩ : ∃ ys, ys = if p0 = [] then r0 else [] :: p0 :: r0 := ⟨_, rfl⟩
  obtain ⟨hpq, hl1, hp1, hev, htl, hyl⟩ := parts_ok hW hr0 hys
  cases hps with
  | @cons _ tp0 pr _ hpr =>
  have F6 := Fr.push F5 { cls := .type "list", data := .seq (Value.str (S p0) tp0 :: pr).toArray }
  have N6 : News _ _ _ ((_, listOf (Value.str (S p0) tp0 :: pr).toArray 0) :: _) := News.push F5 N5 { cls := .type "list", data := .seq (Value.str (S p0) tp0 :: pr).toArray } rfl
  have lD := allLt_of (news_lt N5)
  clear N5 F5
  generalize Heap.push _ _ = h6 at F6 N6 ⊢
  generalize Array.size _ = D6 at N6 lD ⊢
  k_steps
  refine unhalt ?_
  k_with_none
  (k_with "getMethod ref" => (k_here; (with_reducible show wpAny _ _ (getMethod _ (PySem.Str.ofString "split") _) _ _ _); k_dflt (refine' getMethod_builtin (T := "re.Pattern") ⟨_, Frag.In.keeps (by k_asm) (Fr.keep (by k_asm)) _ _ (by k_is), rfl⟩ pa_re slot_rsplit type_rsplit (fun a e => by cases e; exact ⟨_, Frag.In.keeps (by k_asm) (Fr.keep (by k_asm)) _ _ (by k_is), rfl⟩) ?_)))
  rename News _ _ _ _ => N5
  rename Fr _ _ _ _ => F5
  refine join_at F5 N5 (fun o => ∃ es n, o = listOf es n ∧ StrsA es.toList ys) ?iff ?aft
  case iff =>
    by_cases hp0 : p0 = []
    · rw [if_pos hp0] at hys
      subst hp0
      k_steps
      rename Fr _ _ _ _ => F8
      rename News _ _ _ _ => N8
      have hl0 := hpr.len
      refine kl_popAt F8 N8 (its := (Value.str (S []) tp0 :: pr).toArray) (k := 0) (p := []) (q := pr) (news' := (D6, listOf ([] ++ pr).toArray (0 + 1)) :: _) rfl (by simp [seqIndex?]) rfl (by k_upd) (by rw [sizeLine_eq]; simp; omega) ?_
      intro h9 F9 N9
      clear N8 F8
      k_steps
      exact ⟨⟨rfl, _, _, _, F9, N9, ⟨_, _, rfl, by subst hys; simpa using hpr⟩, rfl⟩⟩
    · rw [if_neg hp0] at hys
      have hp0' : ¬ ((S p0).length == 0) = true := by
        rw [S_len]; simp; exact hp0
      k_steps
      refine P.truthy_str (by rw [S_len]; omega) ?_
      have hb : (((S p0).length : Int) != 0) = true := by
        rw [S_len]; simp; exact hp0
      rw [hb]
      clear hb hp0'
      k_steps
      rename Fr _ _ _ _ => F8
      rename News _ _ _ ((_, _) :: _) => N8
      rename_i D7 h8 lD7
      have hl0 := hpr.len
      have z8 := N8 (D6, _) (.tail _ (.head _))
      refine set_front (n := 0) (n' := 0) (Heap.get?_push_of_some _ z8.1) (Heap.get?_push_size _ rfl) (Heap.get?_push_of_some _ (N8 (D7, _) (.head _)).1) (Nat.ne_of_lt lD7.1) (by simp; omega) ?_
      intro h9 hs9 hg9
      have F9 := (Fr.push F8 _).change hs9 z8.2.1 z8.2.2
      have N9 := news_set (pre := []) (post := _ :: _) (fun p hp => News.push F8 N8 _ rfl p (.tail _ (.tail _ hp))) (fun p hp => nomatch hp) (fun p hp => Nat.ne_of_lt (allLt_all lD (Nat.le_refl _) p hp)) hs9 hg9
      k_steps
      exact ⟨⟨rfl, _, _, _, F9, N9, ⟨_, _, rfl, by subst hys; rw [Array.toList_append]; exact StrsA.cons (x := []) (.cons hpr)⟩, rfl⟩⟩
  case aft =>
    rintro h7 o7 tk7 F7 N7 ⟨es, n7, rfl, hes⟩
    clear N5 F5
    k_steps
    refine wpAny_For ?_ (fun _ => rfl)
    k_steps
    refine callWith_typeS ?_
    k_steps
    refine iter_list F7 N7 (by k_mem) ?_
    intro I8 h8 F8 N8 lI
    clear N7 F7
    k_steps
    rename Fr _ _ _ _ => F9
    rename News _ _ _ _ => N9
    rename_i l9 h9 l19
    refine KMa.mul F9 N9 (vs := [.ref I8]) (ws := [.ref I8, .ref I8]) (News.isList N9 (.head _)) (by decide) (by decide) (Nat.le_of_ble_eq_true rfl) rfl ?_
    intro D10 h10 F10 N10 l10
    clear N9 F9
    refine star_seq (T := "list") F10 N10 (.head _) rfl rfl (.inl rfl) rfl (by rw [sizeLine_eq]; exact Nat.le_of_ble_eq_true rfl) ?_
    intro h11 F11 N11
    clear N10 F10
    refine ⟨trivial, ?_⟩
    refine call_zip_it (l := D6) (i := 0) ⟨_, (N11 (I8, _) (.tail _ (.tail _ (.head _)))).1, rfl, rfl⟩ ?_
    intro h12 z TI TO eTI eTO ez hz hTI hTO hk
    have F12 := fr_step [] F11 (fun c o _ e => hk c o e) (fun c hc => nomatch hc)
    have N12 := news_step [] N11 (fun c o _ e => hk c o e) (fun c hc hm => nomatch hm)
    have oz := fresh_at F11 (z := z) (by rw [ez]; exact Nat.le_add_right _ _)
    have oTI := fresh_at F11 (z := TI) (by rw [eTI]; exact Nat.le_refl _)
    have oTO := fresh_at F11 (z := TO) (by rw [eTO]; exact Nat.le_add_right _ _)
    have hI8 : I8 < h11.objs.size := Heap.lt_size (N11 (I8, _) (.tail _ (.tail _ (.head _)))).1
    dsimp only at eTI eTO ez
    clear F11
    refine wpAny_pyIter_zip (f0 := .none) hz ?_
    have hD6 : D6 < I8 := lI.1
    have hIT : I8 < TI := by rw [eTI]; exact hI8
    have hTT : TI < TO := by rw [eTI, eTO]; exact Nat.lt_succ_self _
    have hTz : TO < z := by rw [eTO, ez]; exact Nat.lt_succ_self _
    have hnI : ∀ (x : Nat), x < I8 → x ∉ [z, TO, I8] := by
      intro x hx hm
      simp only [List.mem_cons, List.not_mem_nil, or_false] at hm
      rcases hm with rfl | rfl | rfl
      · exact absurd (Nat.lt_trans hx (Nat.lt_trans hIT (Nat.lt_trans hTT hTz))) (Nat.lt_irrefl _)
      · exact absurd (Nat.lt_trans hx (Nat.lt_trans hIT hTT)) (Nat.lt_irrefl _)
      · exact absurd hx (Nat.lt_irrefl _)
    have hnz : ∀ (x : Nat), z < x → x ∉ [z, TO, I8] := by
      intro x hx hm
      simp only [List.mem_cons, List.not_mem_nil, or_false] at hm
      rcases hm with rfl | rfl | rfl
      · exact absurd hx (Nat.lt_irrefl _)
      · exact absurd (Nat.lt_trans hTz hx) (Nat.lt_irrefl _)
      · exact absurd (Nat.lt_trans (Nat.lt_trans hIT hTT) (Nat.lt_trans hTz hx)) (Nat.lt_irrefl _)
    have hoff : ∀ tb' vs c' ts, (∀ q ∈ ts, z < q.1) → ∀ q ∈ (D6, listOf es n7) :: FmtNews w φ tb' vs c' (ts ++ news), q.1 ∉ [z, TO, I8] := by
      intro tb' vs c' ts hts q hq
      simp only [FmtNews, FmtTl, List.mem_cons, List.mem_append] at hq
      rcases hq with rfl | rfl | rfl | rfl | rfl | rfl | rfl | hq | hq
      · exact hnI _ lI.1
      · exact hnI _ lI.2.1
      · exact hnI _ lI.2.2.1
      · exact hnI _ lI.2.2.2.1
      · exact hnI _ lI.2.2.2.2.1
      · exact hnI _ lI.2.2.2.2.2.1
      · exact hnI _ lI.2.2.2.2.2.2.1
      · exact hnz _ (hts q hq)
      · exact hnI _ (allLt_all lI.2.2.2.2.2.2.2 (Nat.le_refl _) q hq)
    have hX : ∀ (a : Nat), a < D6 → (∀ q ∈ news, q.1 ≠ a) → ∀ {ts : List (Addr × Obj)} {o1 o2 o3 o4 o5 : Obj}, (∀ q ∈ ts, z < q.1) → ∀ q ∈ (z, o1) :: (TO, o2) :: (I8, o3) :: (TI, o4) :: (D6, o5) :: (ts ++ news), q.1 ≠ a := by
      intro a ha hn ts o1 o2 o3 o4 o5 hts q hq
      simp only [List.mem_cons, List.mem_append] at hq
      rcases hq with rfl | rfl | rfl | rfl | rfl | hq | hq
      · exact Nat.ne_of_gt (Nat.lt_trans (Nat.lt_trans ha (Nat.lt_trans hD6 hIT)) (Nat.lt_trans hTT hTz))
      · exact Nat.ne_of_gt (Nat.lt_trans (Nat.lt_trans ha (Nat.lt_trans hD6 hIT)) hTT)
      · exact Nat.ne_of_gt (Nat.lt_trans ha hD6)
      · exact Nat.ne_of_gt (Nat.lt_trans ha (Nat.lt_trans hD6 hIT))
      · exact Nat.ne_of_gt ha
      · exact Nat.ne_of_gt (Nat.lt_trans (Nat.lt_trans (Nat.lt_trans ha (Nat.lt_trans hD6 hIT)) (Nat.lt_trans hTT hTz)) (hts q hq))
      · exact hn q hq
    refine zip_turns (es := es) (n := n7) (ys := ys) rfl rfl rfl rfl hD6 hIT hTT hTz hes hev (fun done news' g => AllBare g ∧ ∃ tb' vs c' ts, TabW tb' ∧ PairsIn ts vs.toList done ∧ (∀ q ∈ ts, z < q.1) ∧ news' = (D6, listOf es n7) :: FmtNews w φ tb' vs c' (ts ++ news)) ?hJ ?step ?hR ⟨G, tb, #[], c, [], hT, (by simp [PairsIn]), (fun _ h => nomatch h), rfl⟩ (hoff tb #[] c [] (fun _ h => nomatch h)) F12 (x0 := .none) (y0 := .none) ?hN
    case hN =>
      intro r hr
      have gI8 := N12 (I8, _) (.tail _ (.tail _ (.head _)))
      rcases List.mem_append.mp hr with hr | hr
      · simp only [List.mem_cons, List.not_mem_nil, or_false] at hr
        rcases hr with rfl | rfl | rfl | rfl
        · exact ⟨hz, oz⟩
        · exact ⟨hTO, oTO⟩
        · exact gI8
        · exact ⟨hTI, oTI⟩
      · exact N12 r (.tail _ (.tail _ (.tail _ hr)))
    case hJ => rintro done nw g ⟨_, tb', vs, c', ts, _, _, _, rfl⟩; exact .head _
    case hR =>
      rintro h g tk nw m' ⟨G', tb', vs, c', ts, hT', P', hts, rfl⟩ F14 N14
      dsimp only
      k_steps
      rename Fr h₀ _ _ _ => F7
      rename News h₀ _ _ _ => N7
      exact hret tb' vs c' ts _ _ _ hT' G' (fun q hq => Nat.lt_trans (Nat.lt_trans lI.2.2.1 (Nat.lt_trans hIT (Nat.lt_trans hTT hTz))) (hts q hq)) (hpq ▸ P') F7 (news_sub N7 (fun q hq => .tail _ hq))
    case step =>
      rintro done p q r t u nw g h tk oI E' hd ⟨G', tb', vs, c', ts, hT', P', hts, rfl⟩ hdis F14 N14
      (k_with "call ref" => refine halt ?_)
      k_steps
      refine unhalt ?_
      k_with_none
      (k_with "getMethod ref" => (k_here; (with_reducible show wpAny _ _ (getMethod _ (PySem.Str.ofString "split") _) _ _ _); k_dflt (refine' getMethod_builtin (T := "re.Pattern") ⟨_, Frag.In.keeps (by k_asm) (Fr.keep (by k_asm)) _ _ (by k_is), rfl⟩ pa_re slot_rsplit type_rsplit (fun a e => by cases e; exact ⟨_, Frag.In.keeps (by k_asm) (Fr.keep (by k_asm)) _ _ (by k_is), rfl⟩) ?_)))
      have hvl := P'.len
      have hdl : done.length + 1 + r.length ≤ 300 := by
        have := congrArg List.length hd
        simp at this
        omega
      rename Below _ _ (_ :: outer) _ => B1
      rename Top _ _ _ _ _ _ => T1
      refine wpAny_weaken (B := ktrTop 600 3000 (some []) _ (fsc _ _) _ _ _ _ _) rfl (Nat.le_of_ble_eq_true rfl) rfl rfl (Nat.le_of_ble_eq_true rfl)
        (c_chunk (φ := φ) (tb := tb') (c := c') (vs := vs) (xs := done) ?s1 p q t u (news := (z, zipO TI TO .none) :: (TO, tup2 (.str (S p) t) (.str (S q) u)) :: (I8, oI) :: (TI, tup2 (.ref I8) (.ref I8)) :: (D6, listOf es n7) :: (ts ++ news)) _ _ _ _ _ _ _ _ _ _ _ _ _ _ _ B1 F14 K5 (news_move (a := [(z, zipO TI TO .none), (TO, tup2 (.str (S p) t) (.str (S q) u)), (I8, oI), (TI, tup2 (.ref I8) (.ref I8)), (D6, listOf es n7)]) (b := FmtNews w φ tb' vs c' []) (c := ts ++ news) N14) T1 C hT' G' ?n2 ?n3 hO ?n4 ?n5 ?n6)
      case s1 =>
        have e : vs.size = done.length := hvl
        omega
      case n2 => exact P'.mono fun r hr => .tail _ (.tail _ (.tail _ (.tail _ (.tail _ (List.mem_append.mpr (.inl hr))))))
      case n3 =>
        have := congrArg tlen hd
        rw [show (p, q) :: r = [(p, q)] ++ r from rfl, ← List.append_assoc, tlen_app] at this
        omega
      case n4 => exact hX 162 lD.1 h162 hts
      case n5 => exact hX φ.x lD.2.1 (fun q hq => Nat.ne_of_lt (Nat.lt_trans (hlow q hq) (Nat.lt_trans (Nat.lt_trans hO.1 hO.2.1) (Nat.lt_trans hO.2.2.1 hO.2.2.2.1)))) hts
      case n6 =>
        intro tb2 T t2 u2 c2 h2 g2 tk2 hT2 G2 hxT hlast F2 N2
        k_steps
        refine ⟨⟨rfl, _, _, _, (D6, listOf es n7) :: FmtNews w φ tb2 (vs.push (.ref T)) c2 (((T, pairObj p q t2 u2) :: ts) ++ news), rfl, F2, news_move (a := FmtNews w φ tb2 (vs.push (.ref T)) c2 [(T, pairObj p q t2 u2)]) (b := [(z, zipO TI TO .none), (TO, tup2 (.str (S p) t) (.str (S q) u)), (I8, oI), (TI, tup2 (.ref I8) (.ref I8)), (D6, listOf es n7)]) (c := ts ++ news) N2, ⟨G2, tb2, _, c2, (T, pairObj p q t2 u2) :: ts, hT2, ?n8, ?n9, rfl⟩, hoff _ _ _ _ ?n9⟩⟩
        case n8 =>
          rw [Array.toList_push]
          exact PairsIn.snoc (.head _) (P'.mono fun r hr => .tail _ hr)
        case n9 =>
          intro r hr
          rcases List.mem_cons.mp hr with rfl | hr
          · exact hlast (z, _) (.head _)
          · exact hts r hr
end Mine
end
-- E_acc
section
open PySem PySem.W PyProof.Rows PySem.Spec PySem.Calls
set_option Elab.async false
set_option maxRecDepth 100000
set_option maxHeartbeats 16000000
namespace Mine
theorem c_acc {w : World} {p : Program} {loose : List Str} {mean : ExcName → Option Value} {mg mb : Str → Option Value} {news : List (Addr × Obj)} (t : Tok) :
  ∀ (cn : Str) (nm : List (Str × NameKind)) (mr : List (Str × Const)) (a : Addr) (ccd : Value) (cl : List (Str × Addr)) (outer : List Env) (A₀ : Around) (base h₀ : Heap) (L : Addr) (m : Str → Option Value) (s : Shared) (Q E : Value → Shared → Prop),
    Below A₀ base outer h₀ → Fr h₀ L s.heap m → (hd.heap_1 w.params).In h₀ → News h₀ L s.heap news → Top p loose mean mg mb h₀ →
    (∀ (x dx : Nat) (t1 t2 : Tok) (h' : Heap) (tk' : Nat), (∀ p ∈ news, p.1 < dx) → dx < x → Fr h₀ L h' m → News h₀ L h' ((x, listInst 200 dx #[] 0) :: (dx, dictOf [dE w "_initial_size" t1 (.int 0 t2)] 1) :: news) → Q (.ref x) { s with heap := h', toks := tk' }) →
      wpAny (model PySem.Challenge.rw_wu0094_01.row.prog w) (ktrTop 600 2000 (some []) cn (fsc nm mr) L a ccd cl outer) (call (.ref 200) [.int 0 t]) Q E s := by
  k_fill
  k_with_none
  (k_with "setAttr ref" => (k_here; k_dflt (refine' set_L ?k1 ?k2 ?k3 ?k4 ?k5 ?k6 ?k7 ?k7b ?k8 ?k9 ?k10 ?k11 ?k12 ?k13 ?_; (case k1 => k_asm); (case k2 => k_asm); (case k3 => k_asm); (case k4 => k_inst); (case k5 => exact rfl); (case k6 => k_is); (case k7 => k_is); (case k7b => exact rfl); (case k8 => exact rfl); (case k9 => k_is); (case k10 => k_get); (case k11 => k_put); (case k12 => k_upd); (case k13 => exact Nat.le_of_ble_eq_true rfl); k_whole; intro h' F' N'; (try dsimp only); refine halt ?_)))
  (k_with "getMethod ref" => (k_here; k_dflt (refine' method_li ?k1 ?k2 ?k3 ?k4 ?k5 ?k6 ?k7 ?k8 ?_; (case k1 => k_asm); (case k2 => k_asm); (case k3 => k_asm); (case k4 => k_mem); (case k5 => k_inst); (case k6 => k_is); (case k7 => ks_is); (case k8 => k_is); intro q' h' F' N' l1; (try k_lt l1); (try dsimp only))))
  (k_with "callWith ref" => (k_here; k_dflt (refine' callWith_wr ?k1 ?k2 ?_; (case k1 => k_asm); (case k2 => k_mem))))
  (k_with "call ref" => (k_here; k_dflt (refine' call_li ?k1 ?k2 ?k3 ?k4 ?_; (case k1 => k_asm); (case k2 => k_asm); (case k3 => k_mem); (case k4 => k_mem); intro h' F' N')))
  intro cn nm mr a ccd cl outer A₀ base h₀ L m s Q E B F K N TT hret
  refine wpAny_call ?_
  refine' makeL_K (fI := 137) F N (K.keeps F.keep) (makesL_of (C := 200) (K.keeps F.keep) ?a1 ?a2 ?a3 ?a4 ?a5 ?a6 ?a7 ?a8 ?a9) ?a10 ?a11 ?_
  case a1 => k_is
  case a2 => rfl
  case a3 => rfl
  case a4 => rfl
  case a5 => rfl
  case a6 => k_is
  case a7 => k_is
  case a8 => k_is
  case a9 => k_is
  case a10 => k_is
  case a11 => k_is
  intro x dx h' F' N' l1 l2
  have l1o := l1
  have l2o := l2
  (try k_lt l1)
  (try k_lt2 l2)
  k_dflt (refine' ks_code_super ?k1 ?k2 ?k3 ?k4 ?k5 ?kA ?kF ?kK ?k6 ?k7 ?k8 ?k9 ?kB ?_ ?c1 ?c2 ?c3 ?c4; (case kA => exact rfl); (case kF => exact rfl); (case kK => exact rfl); (case k1 => k_asm); (case k2 => k_asm); (case k3 => k_asm); (case k4 => k_asm); (case k5 => k_asm); (case k6 => k_is); (case k7 => k_is); (case k8 => k_room); (case k9 => first | exact BindsTo.of_eq rfl | exact binds_K (by k_in) rfl (by k_is) rfl rfl rfl); (case kB => exact locs rfl); (case c1 => decide); (case c2 => exact rfl); (case c3 => exact rfl); (case c4 => exact rfl); intro g' L' h' FG' F' N' B' X' T' l1; (try k_lt l1); (try dsimp only); (try k_lift B'))
  k_steps
  refine unhalt ?_
  refine ks_wpAt_execs_cons (ks_wpAt_Expr_any (ks_wpAt_MethodCall ?_))
  refine ks_node (by k_asm) (by k_asm) (by k_asm) (by k_asm) (by k_is) (by rfl) (by rfl) (by k_inst) (by k_is) (by rfl) (by first | rfl | decide +kernel) (by k_is) (by k_is) (by k_is) (by k_is) (by decide) (by rfl) (by rfl) (by rfl) (by rfl) (by decide +kernel) (by first | boot_by_name | rfl | kernel_rfl) ?_
  intro so' h' F' N' l1
  (try k_lt l1)
  k_steps
  rename Fr h₀ _ _ _ => F2
  rename News h₀ _ _ _ => N2
  have N3 : ∃ t1 t2 : Tok, News h₀ L (hOf F2) ((x, listInst 200 dx #[] 0) :: (dx, dictOf [dE w "_initial_size" t1 (.int 0 t2)] 1) :: news) := by
    apply Exists.intro
    apply Exists.intro
    apply news_sub N2
    intro p hp
    simp only [List.mem_cons] at hp ⊢
    rcases hp with h | h | h <;> (repeat first | exact h | exact Or.inl h | apply Or.inr)
  obtain ⟨t1, t2, N3⟩ := N3
  exact hret _ _ _ _ _ _ l1o l2o F2 N3
end Mine
end
-- PC
section
open PySem PySem.W PyProof.Rows PySem.Spec PySem.Calls PyProof.Rows.LCg
set_option Elab.async false
set_option maxRecDepth 100000
set_option maxHeartbeats 4000000
namespace Mine
section
variable {prog : Program} {w : World} {A : Around} {E : Value → Shared → Prop} {s : Shared}
theorem pc_loop {elt target iter : PySem.Expr} {ifs : List PySem.Expr} {scope : Scope} {pos : Pos} {it acc : Value} {env : Env} {R : Result → Shared → Prop} (I : Nat → Shared → Prop)
    (turn : ∀ n s, I n s → wpAny (model prog w) A (pyNext it) (fun r s₁ => match r with
      | none => R (.ok .next) s₁
      | some v => wpAny (model prog w) A (letOwnedTupleGo target it v) (fun _ s₀ => wpAny (model prog w) A (assign target env v) (fun _ s₂ =>
          wpAny (model prog w) A (forIn ifs true fun c r => if r = true then do let ok ← isTrue c env (eval c env); pure (ForInStep.yield ok) else pure (ForInStep.yield r)) (fun ok s₃ =>
            if ok = true then wpAny (model prog w) A (eval elt env) (fun x s₄ =>
              wpAny (model prog w) A (call (.builtin "list.append") [acc, x]) (fun _ s₅ => ∃ m, m < n ∧ I m s₅) (notedBy (model prog w) A env fun e s' => R (.error e) s') s₄) (notedBy (model prog w) A env fun e s' => R (.error e) s') s₃
            else ∃ m, m < n ∧ I m s₃) (notedBy (model prog w) A env fun e s' => R (.error e) s') s₂) (notedBy (model prog w) A env fun e s' => R (.error e) s') s₀) (notedBy (model prog w) A env fun e s' => R (.error e) s') s₁) (notedBy (model prog w) A env fun e s' => R (.error e) s') s)
    (n : Nat) (h : I n s) : codeAny (model prog w) A (.compLoop (.ListComp elt [⟨target, iter, ifs, 0⟩] scope pos) 0 it acc env) R s := by
  refine codeAny_loop rfl I (fun n s hI => ?_) n h
  show wpAny _ A ((compTurn (.ListComp elt [⟨target, iter, ifs, 0⟩] scope pos) 0 it acc env).onRaise (fun x => do noteFrame x env; theTreesLotGoes x)) _ _ s
  refine wpAny_noted ?_
  rw [compTurn_list]
  refine wpAny_bind (wpAny_standAt (wpAny_bind (wpAny_mono (turn n s hI) (fun r s₁ h₁ => ?_) fun _ _ h' => h')))
  cases r with
  | none => exact wpAny_pure h₁
  | some v =>
    refine wpAny_bind (wpAny_mono h₁ (fun _ s₀ h₀' => ?_) fun _ _ h' => h')
    refine wpAny_bind (wpAny_mono h₀' (fun _ s₂ h₂ => wpAny_bind (wpAny_mono h₂ (fun ok s₃ h₃ => ?_) fun _ _ h' => h')) fun _ _ h' => h')
    cases ok with
    | false => exact wpAny_pure ⟨rfl, h₃⟩
    | true =>
      exact wpAny_bind (wpAny_bind (wpAny_mono h₃ (fun x s₄ h₄ => wpAny_bind (wpAny_mono h₄ (fun _ s₅ h₅ => wpAny_pure (wpAny_pure ⟨rfl, h₅⟩)) fun _ _ h' => h')) fun _ _ h' => h'))
variable {h₀ : Heap} {L : Addr} {m : Str → Option Value} {env : Env}
/-- one turn over a pair -/
noncomputable def PcStep (prog : Program) (w : World) (A : Around) (h₀ : Heap) (L : Addr) (m : Str → Option Value) (env : Env) (elt : PySem.Expr) (ifs : List PySem.Expr) (a b : Str) (scope : Scope) (cl : List (Str × Addr)) (s : Shared) (S' : List (Addr × Obj) → Prop) (J : List (List Nat × List Nat) → List Value → List (Addr × Obj) → Prop) (xs : List (List Nat × List Nat)) : Prop :=
  ∀ done p q r ys news (t u : Tok) I oI C oC D m₂ h tk (E' : Value → Shared → Prop), done ++ (p, q) :: r = xs → J done ys news → S' news → ys.length ≤ done.length → NsObj oC m₂ → m₂ a = some (.str (S p) t) → m₂ b = some (.str (S q) u) → Fr h₀ L h m → News h₀ L h ((I, oI) :: (C, oC) :: (D, lst ys) :: news) → Off3 I C D news → ((@Ne Nat I C) ∧ (@Ne Nat I D) ∧ (@Ne Nat C D)) →
    wpAny (model prog w) A (forIn ifs true fun c r => if r = true then do let ok ← isTrue c (compEnvC scope cl C env) (eval c (compEnvC scope cl C env)); pure (ForInStep.yield ok) else pure (ForInStep.yield r)) (fun ok s₃ =>
      if ok = true then wpAny (model prog w) A (eval elt (compEnvC scope cl C env)) (CompEnd h₀ L m { s with heap := h, toks := tk } I oI C oC D (lst ys) S' (fun y news' => J (done ++ [(p, q)]) (ys ++ [y]) news')) E' s₃
      else CompEnd h₀ L m { s with heap := h, toks := tk } I oI C oC D (lst ys) S' (fun _ news' => J (done ++ [(p, q)]) ys news') .none s₃) E' { s with heap := h, toks := tk }
theorem pairs_at {h₀ h : Heap} {L : Addr} {news : List (Addr × Obj)} (N : News h₀ L h news) : ∀ {vs : List Value} {xs : List (List Nat × List Nat)} (i : Nat), PairsIn news vs xs → ∀ {p q}, xs[i]? = some (p, q) → ∃ T t u, vs[i]? = some (.ref T) ∧ (T, pairObj p q t u) ∈ news
  | [], [], _, _ => fun e => by simp at e
  | [], _ :: _, _, h => h.elim
  | _ :: _, [], _, h => h.elim
  | v :: vs, (_, _) :: xs, 0, ⟨⟨T, t, u, e, hm⟩, _⟩ => fun e' => by simp at e'; obtain ⟨rfl, rfl⟩ := e'; exact ⟨T, t, u, by simp [e], hm⟩
  | v :: vs, (_, _) :: xs, i + 1, ⟨_, h⟩ => fun e' => by simp at e'; obtain ⟨T, t, u, e1, e2⟩ := pairs_at N i h e'; exact ⟨T, t, u, by simpa using e1, e2⟩
theorem pc_block {elt iter : PySem.Expr} {ifs : List PySem.Expr} {a b : Str} {pa pb tp : Pos} {kk : Nat} {scope : Scope} {cl : List (Str × Addr)} {pos : Pos} {s₂ : Shared} {I lx : Addr} {oI ox : Obj} {its : Array Value} {nx : Nat} {xs : List (List Nat × List Nat)} {news : List (Addr × Obj)}
    {S' : List (Addr × Obj) → Prop} {J : List (List Nat × List Nat) → List Value → List (Addr × Obj) → Prop} {RR : Value → Addr → Result → Shared → Prop}
    (hh : A.handled = none) (hsz : xs.length ≤ 1000) (hox : ox.data = .seq its nx) (hS : ∀ news, S' news → (lx, ox) ∈ news ∧ PairsIn news its.toList xs)
    (hc : oI.cls = .type "list_iterator") (hd : oI.data = .fields #[.ref lx, .int 0 0])
    (hcell : ∀ y ∈ scope.names, y.2 ≠ .cell) (hkind : scope.kind = .function) (hxa : scope.names.lookup a = some .local) (hxb : scope.names.lookup b = some .local) (hab : ¬ a = b)
    (F : Fr h₀ L s₂.heap m) (N : News h₀ L s₂.heap ((I, oI) :: news)) (off : ∀ p ∈ news, p.1 ≠ I) (hS0 : S' news) (hJ0 : J [] [] news)
    (R : PcStep prog w A h₀ L m env elt ifs a b scope cl s₂ S' J xs)
    (hRR : ∀ D C h tk m' ys news', D = s₂.heap.objs.size → Fr h₀ L h m → News h₀ L h ((D, lst ys) :: news') → Off1 D news' → h.Ns C m' → h₀.get? C = none → h₀.get? D = none → C ≠ L → D ≠ L → C ≠ D → (∀ p ∈ news', p.1 ≠ C) → J xs ys news' → S' news' → RR (.ref D) C (.ok .next) { s₂ with heap := h, toks := tk }) :
    wpAny (model prog w) A (newList []) (fun acc s₃ => wpAny (model prog w) A (newFunctionEnv scope env.globals cl [] env.qual none .none (some env)) (fun cenv s₄ =>
      codeAny (model prog w) A (.compStart (.ListComp elt [⟨.Tuple [.Name a pa, .Name b pb] kk tp, iter, ifs, 0⟩] scope pos) 0 (.ref I) acc { cenv with scope := relabel scope env }) (RR acc cenv.locals) s₄) E s₃) E s₂ := by
  refine wpAny_newObj_type (wpAny_newFunctionEnv hcell (by intro y hy; simp at hy) (fun h₁ hns₁ hsb₁ => ?_) hkind)
  dsimp only at hns₁ hsb₁ ⊢
  generalize hH2 : s₂.heap.push { cls := .type "list", dict := none, data := .seq ([] : List Value).toArray } = H2 at hns₁ hsb₁ ⊢
  have hC : H2.objs.size = s₂.heap.objs.size + 1 := by rw [← hH2, Heap.size_push]
  have hDC : s₂.heap.objs.size ≠ H2.objs.size := by rw [hC]; exact Nat.ne_of_lt (Nat.lt_succ_self _)
  have below : ∀ b, b < s₂.heap.objs.size → b ≠ H2.objs.size ∧ b ≠ s₂.heap.objs.size := fun b hb => ⟨by rw [hC]; exact Nat.ne_of_lt (Nat.lt_succ_of_lt hb), Nat.ne_of_lt hb⟩
  have zI := N (I, oI) (.head _)
  have hIlt : I < s₂.heap.objs.size := Heap.lt_size zI.1
  have hIL : L ≠ I := Ne.symm zI.2.1
  have hI₀ := zI.2.2
  have old : ∀ b o, s₂.heap.get? b = some o → h₁.get? b = some o := fun b o e => hsb₁.extBut b o (below b (Heap.lt_size e)).1 (Heap.get?_push_of_some _ (hH2 ▸ Heap.get?_push_of_some _ e))
  have hacc : h₁.get? s₂.heap.objs.size = some (lst []) := hsb₁.extBut _ _ hDC (Heap.get?_push_of_some _ (hH2 ▸ Heap.get?_push_size _ rfl))
  have hit₁ : h₁.IsListIter I lx 0 := ⟨_, old _ _ zI.1, hc, hd⟩
  have fresh : ∀ a, s₂.heap.objs.size ≤ a → s₂.heap.get? a = none := fun a ha => by
    cases e : s₂.heap.get? a with
    | none => rfl
    | some o' => exact absurd (Heap.lt_size e) (Nat.not_lt.mpr ha)
  have fresh₀ : ∀ a, s₂.heap.objs.size ≤ a → h₀.get? a = none := fun a ha => by
    cases e : h₀.get? a with
    | none => rfl
    | some o' => have := F.keep a o' e; rw [fresh a ha] at this; cases this
  have hD₀ : h₀.get? s₂.heap.objs.size = none := fresh₀ _ (Nat.le_refl _)
  have hC₀ : h₀.get? H2.objs.size = none := fresh₀ _ (by rw [hC]; exact Nat.le_succ _)
  have hLlt : L < s₂.heap.objs.size := F.ns.lt
  have hDL : s₂.heap.objs.size ≠ L := Ne.symm (below L hLlt).2
  have hCL : H2.objs.size ≠ L := Ne.symm (below L hLlt).1
  have hCI : I ≠ H2.objs.size := (below I hIlt).1
  have hDI : I ≠ s₂.heap.objs.size := (below I hIlt).2
  have N0 : News h₀ L s₂.heap news := news_sub N fun p hp => .tail _ hp
  have off₀ : Off3 I H2.objs.size s₂.heap.objs.size news := Off3.of fun p hp => ⟨off p hp, (below _ (Heap.lt_size (N0 p hp).1)).1, (below _ (Heap.lt_size (N0 p hp).1)).2⟩
  have loop : ∀ s₃ : Shared, s₃ = { s₂ with heap := h₁, toks := s₂.toks + ([] : List (Str × Value)).length } →
      codeAny (model prog w) A (.compLoop (.ListComp elt [⟨.Tuple [.Name a pa, .Name b pb] kk tp, iter, ifs, 0⟩] scope pos) 0 (.ref I) (.ref s₂.heap.objs.size) (compEnvC scope cl H2.objs.size env))
        (RR (.ref s₂.heap.objs.size) H2.objs.size) s₃ := by
    rintro s₃ rfl
    refine pc_loop
      (fun k s' => ∃ h' tk i ys m' news' done, s' = { s₂ with heap := h', toks := tk } ∧ done ++ xs.drop i = xs ∧ done.length = i ∧ k = xs.length + 1 - i ∧ ys.length ≤ done.length ∧ h'.IsListIter I lx i ∧ Fr h₀ L h' m ∧ h'.Ns H2.objs.size m' ∧
        News h₀ L h' ((s₂.heap.objs.size, lst ys) :: news') ∧ Off3 I H2.objs.size s₂.heap.objs.size news' ∧ S' news' ∧ J done ys news') ?_ (xs.length + 1)
      ⟨h₁, _, 0, [], _, news, [], rfl, rfl, rfl, rfl, Nat.le_refl _, hit₁, F.keeps old, hns₁, fun p hp => ?_, off₀, hS0, hJ0⟩
    · rintro k s' ⟨h', tk, i, ys, m', news', done, rfl, hdone, hdl, rfl, hyl, hit', F', hn', N', off', hS', J'⟩
      have off3 := off'.mem
      have hxl := congrArg List.length hdone
      rw [List.length_append, List.length_drop] at hxl
      obtain ⟨hlx, hP⟩ := hS _ hS'
      have Nn : News h₀ L h' news' := news_sub N' fun p hp => .tail _ hp
      have hSq : SeqAt h' lx its := ⟨_, nx, (Nn _ hlx).1, hox⟩
      have hpl := hP.len
      by_cases hlt : i < xs.length
      · obtain ⟨⟨p, q⟩, hpq⟩ : ∃ p, xs[i]? = some p := ⟨_, List.getElem?_eq_getElem hlt⟩
        obtain ⟨T, t, u, hT, hTm⟩ := pairs_at Nn i hP hpq
        have hdrop : xs.drop i = (p, q) :: xs.drop (i + 1) := by
          rw [List.drop_eq_getElem_cons hlt]
          congr 1
          exact Option.some.inj ((List.getElem?_eq_getElem hlt).symm.trans hpq)
        rw [hdrop] at hdone
        refine next_item hit' hSq (by rw [← Array.getElem?_toList]; exact hT) fun h₂ hit₂ hs₂ => ?_
        dsimp only
        refine wpAny_letOwnedTupleGo_listiter hit₂ ?_
        have hTI := (off3 _ hTm).1
        have zT := Nn _ hTm
        have up₂ : ∀ c o, c ≠ I → h'.get? c = some o → h₂.get? c = some o := fun c o hc e => hs₂.extBut c o hc e
        refine kcp_assign (env := compEnvC scope cl H2.objs.size env) hh ⟨_, up₂ _ _ hTI zT.1, rfl, 0, rfl⟩ (lookup_relabel_local hxa) (lookup_relabel_local hxb) (by simp [compEnvC, relabel, hkind]) (hn'.at' fun o e => up₂ _ o (Ne.symm hCI) e) fun h₄ tk₄ hn₄ hs₄ => ?_
        have up : ∀ c o, c ≠ I → c ≠ H2.objs.size → h'.get? c = some o → h₄.get? c = some o := fun c o h1 h2 e => hs₄ c o h2 (up₂ c o h1 e)
        obtain ⟨oI2, e2, hc2, hd2⟩ := hit₂
        have heI := hs₄ I _ hCI e2
        obtain ⟨oC, heC, hoC⟩ := PyProof.Rows.LCg.ns_obj hn₄
        have F₄ : Fr h₀ L h₄ m := ⟨F'.ns.at' fun o e => up _ o hIL (Ne.symm hCL) e, fun c o e => up c o (fun q => by rw [q, hI₀] at e; cases e) (fun q => by rw [q, hC₀] at e; cases e) (F'.keep c o e), F'.above⟩
        have N₄ : News h₀ L h₄ ((I, oI2) :: (H2.objs.size, oC) :: (s₂.heap.objs.size, lst ys) :: news') := fun q hq => by
          rcases List.mem_cons.mp hq with rfl | hq
          · exact ⟨heI, Ne.symm hIL, hI₀⟩
          · rcases List.mem_cons.mp hq with rfl | hq
            · exact ⟨heC, hCL, hC₀⟩
            · have z := N' q hq
              refine ⟨up _ _ ?_ ?_ z.1, z.2⟩
              · rcases List.mem_cons.mp hq with rfl | hq
                · exact Ne.symm hDI
                · exact (off3 q hq).1
              · rcases List.mem_cons.mp hq with rfl | hq
                · exact hDC
                · exact (off3 q hq).2.1
        refine wpAny_mono (R done p q (xs.drop (i + 1)) ys news' t u I oI2 H2.objs.size oC s₂.heap.objs.size _ h₄ _ _ hdone J' hS' hyl hoC (by simp [hab]) (by simp) F₄ N₄ off' ⟨hCI, hDI, Ne.symm hDC⟩) (fun ok s₅ h₅ => ?_) fun _ _ e => e
        have back : ∀ h₆ tk₆ ys' news₆, ys'.length ≤ done.length + 1 → Fr h₀ L h₆ m → News h₀ L h₆ ((I, oI2) :: (H2.objs.size, oC) :: (s₂.heap.objs.size, lst ys') :: news₆) → Off3 I H2.objs.size s₂.heap.objs.size news₆ → S' news₆ → J (done ++ [(p, q)]) ys' news₆ →
            ∃ m, m < xs.length + 1 - i ∧ ∃ h' tk i ys m' news' done, ({ s₂ with heap := h₆, toks := tk₆ } : Shared) = { s₂ with heap := h', toks := tk } ∧ done ++ xs.drop i = xs ∧ done.length = i ∧ m = xs.length + 1 - i ∧ ys.length ≤ done.length ∧ h'.IsListIter I lx i ∧ Fr h₀ L h' _ ∧ h'.Ns H2.objs.size m' ∧
        News h₀ L h' ((s₂.heap.objs.size, lst ys) :: news') ∧ Off3 I H2.objs.size s₂.heap.objs.size news' ∧ S' news' ∧ J done ys news' := fun h₆ tk₆ ys' news₆ hl₆ F₆ N₆ off₆ hS₆ J₆ =>
          ⟨xs.length + 1 - (i + 1), by omega, h₆, tk₆, i + 1, ys', _, news₆, done ++ [(p, q)], rfl, by rw [List.append_assoc]; exact hdone, by simp [hdl], rfl, by simpa using hl₆, ⟨_, (N₆ (I, oI2) (.head _)).1, hc2, hd2⟩, F₆, hoC.ns (N₆ (H2.objs.size, oC) (.tail _ (.head _))).1, news_sub N₆ (fun p hp => .tail _ (.tail _ hp)), off₆, hS₆, J₆⟩
        cases ok with
        | false =>
          obtain ⟨h₆, tk₆, news₆, rfl, F₆, N₆, off₆, hS₆, J₆⟩ := h₅
          exact back h₆ tk₆ ys news₆ (Nat.le_succ_of_le hyl) F₆ N₆ off₆ hS₆ J₆
        | true =>
          refine wpAny_mono h₅ (fun y s₆ h₆ => ?_) fun _ _ e => e
          obtain ⟨h₅, tk₅, news₅, rfl, F₅, N₅, off₅, hS₅, J₅⟩ := h₆
          have zD := (N₅ (s₂.heap.objs.size, lst ys) (.tail _ (.tail _ (.head _)))).1
          refine append_at (hsz := by show ys.toArray.size ≤ sizeLine; rw [List.size_toArray, sizeLine_eq]; omega) zD fun h₆ hs₆ hD₆ => ?_
          have off5 := off₅.mem
          refine back h₆ tk₅ (ys ++ [y]) news₅ (by simp; exact hyl) (F₅.change hs₆ hDL hD₀) (fun q hq => ?_) off₅ hS₅ J₅
          rcases List.mem_cons.mp hq with rfl | hq
          · exact ⟨hs₆.extBut _ _ hDI (N₅ _ (.head _)).1, Ne.symm hIL, hI₀⟩
          · rcases List.mem_cons.mp hq with rfl | hq
            · exact ⟨hs₆.extBut _ _ (Ne.symm hDC) (N₅ _ (.tail _ (.head _))).1, hCL, hC₀⟩
            · rcases List.mem_cons.mp hq with rfl | hq
              · exact ⟨hD₆.trans (congrArg some (lst_snoc ys y)), hDL, hD₀⟩
              · have z := N₅ q (.tail _ (.tail _ (.tail _ hq)))
                exact ⟨hs₆.extBut _ _ (off5 q hq).2.2 z.1, z.2⟩
      · have hde : done = xs := by
          rw [List.drop_eq_nil_of_le (by omega)] at hdone
          simpa using hdone
        subst hde
        refine next_end hh hit' hSq (by rw [← Array.getElem?_toList]; exact List.getElem?_eq_none (by omega)) fun h₂ he₂ => ?_
        have hk₂ : ∀ c o, c ≠ I → h'.get? c = some o → h₂.get? c = some o := fun c o hc e => he₂ c o hc e
        have F₂ := fr_step [I] F' (fun c o hc e => hk₂ c o (fun x => hc (by simp [x])) e) (fun c hc => by rw [List.mem_singleton.mp hc]; exact ⟨Ne.symm hIL, hI₀⟩)
        have N₂ := news_step [I] N' (fun c o hc e => hk₂ c o (fun x => hc (by simp [x])) e) (fun p hp hm => by
          rcases List.mem_cons.mp hp with rfl | hp
          · exact hDI (List.mem_singleton.mp hm).symm
          · exact (off3 p hp).1 (List.mem_singleton.mp hm))
        exact hRR _ _ h₂ tk _ ys news' rfl F₂ N₂ off'.one (hn'.at' fun o e => hk₂ _ o (Ne.symm hCI) e) hC₀ hD₀ hCL hDL (Ne.symm hDC) (fun p hp => (off3 p hp).2.1) J' hS'
    · rcases List.mem_cons.mp hp with rfl | hp
      · exact ⟨hacc, hDL, hD₀⟩
      · exact ⟨old _ _ (N0 p hp).1, (N0 p hp).2⟩
  exact codeAny_compStart_list (loop _ rfl) (wpAny_pyIter_listiter hit₁ (loop _ rfl))
/-- a list of pairs, walked by two names -/
theorem pc_ListComp {elt iter : PySem.Expr} {ifs : List PySem.Expr} {a b : Str} {pa pb tp : Pos} {kk : Nat} {scope : Scope} {cl : List (Str × Addr)} {pos : Pos} {Q : Value → Shared → Prop} {lx : Addr} {ox : Obj} {its : Array Value} {nx : Nat} {xs : List (List Nat × List Nat)}
    {S' : List (Addr × Obj) → Prop} {J : List (List Nat × List Nat) → List Value → List (Addr × Obj) → Prop} (_F₀ : Fr h₀ L s.heap m)
    (hh : A.handled = none) (hsz : xs.length ≤ 1000) (hox : ox.data = .seq its nx) (hS : ∀ news, S' news → (lx, ox) ∈ news ∧ PairsIn news its.toList xs)
    (hclos : closureFor scope env = pure cl) (hcell : ∀ y ∈ scope.names, y.2 ≠ .cell) (hkind : scope.kind = .function)
    (hnames : ∀ y ∈ scope.names, y.2 = .local → scope.names.lookup y.1 = some .local) (hxa : scope.names.lookup a = some .local) (hxb : scope.names.lookup b = some .local) (hab : ¬ a = b)
    (h : wpAny (model prog w) A (eval iter env) (fun xv s₁ => wpAny (model prog w) A (pyIter xv) (fun it s₂ => ∃ I oI news, it = .ref I ∧ oI.cls = .type "list_iterator" ∧ oI.data = .fields #[.ref lx, .int 0 0] ∧ Fr h₀ L s₂.heap m ∧ News h₀ L s₂.heap ((I, oI) :: news) ∧ (∀ p ∈ news, p.1 ≠ I) ∧ S' news ∧ J [] [] news ∧
      PcStep prog w A h₀ L m env elt ifs a b scope cl s₂ S' J xs ∧ (∀ D h tk ys news', D = s₂.heap.objs.size → Fr h₀ L h m → News h₀ L h ((D, lst ys) :: news') → Off1 D news' → J xs ys news' → S' news' → Q (.ref D) { s₂ with heap := h, toks := tk })) E s₁) E s)
    (hs : ∀ x, foldedSetIterable iter env x = pure x := by intro _; rfl) :
    wpAny (model prog w) A (eval (.ListComp elt [⟨.Tuple [.Name a pa, .Name b pb] kk tp, iter, ifs, 0⟩] scope pos) env) Q E s := by
  rw [eval_ListComp]
  refine wpAny_comprehension_free (use := none) rfl hs hclos hkind hnames (wpAny_mono h (fun xv s₁ h₁ => wpAny_mono h₁ (fun it s₂ h₂ => ?_) fun _ _ e => e) fun _ _ e => e)
  obtain ⟨I, oI, news, rfl, hc, hd, F, N, off, hS0, hJ0, R, fin⟩ := h₂
  refine pc_block hh hsz hox hS hc hd hcell hkind hxa hxb hab F N off hS0 hJ0 R ?_
  intro D C h tk m' ys news' eD F' N' o1 hn hC₀ hD₀ hCL hDL hCD offC hJ hS'
  refine ⟨m', hn, fun h'' hs'' => fin D h'' tk ys news' eD (F'.change hs'' hCL hC₀) (fun p hp => ?_) o1 hJ hS'⟩
  refine ⟨hs''.extBut _ _ ?_ (N' p hp).1, (N' p hp).2⟩
  rcases List.mem_cons.mp hp with rfl | hp
  · exact Ne.symm hCD
  · exact offC p hp
theorem pc_Assign {elt iter : PySem.Expr} {ifs : List PySem.Expr} {a b y : Str} {pa pb tp py : Pos} {kk : Nat} {scope : Scope} {cl : List (Str × Addr)} {pos spos : Pos} {Q : Flow → Shared → Prop} {lx : Addr} {ox : Obj} {its : Array Value} {nx : Nat} {xs : List (List Nat × List Nat)}
    {S' : List (Addr × Obj) → Prop} {J : List (List Nat × List Nat) → List Value → List (Addr × Obj) → Prop} (_F₀ : Fr h₀ L s.heap m) (hLe : env.locals = L)
    (hh : A.handled = none) (hsz : xs.length ≤ 1000) (hox : ox.data = .seq its nx) (hS : ∀ news, S' news → (lx, ox) ∈ news ∧ PairsIn news its.toList xs)
    (hsw : swapsWith (.ListComp elt [⟨.Tuple [.Name a pa, .Name b pb] kk tp, iter, ifs, 0⟩] scope pos) (some (.Name y py)) spos.line env = pure true)
    (hclos : closureFor scope env = pure cl) (hcell : ∀ y ∈ scope.names, y.2 ≠ .cell) (hkind : scope.kind = .function)
    (hnames : ∀ y ∈ scope.names, y.2 = .local → scope.names.lookup y.1 = some .local) (hxa : scope.names.lookup a = some .local) (hxb : scope.names.lookup b = some .local) (hab : ¬ a = b)
    (hy : env.kindOf y = some .local) (hp : (env.scope.kind == .class || (env.scope.kind == .module && env.locals != env.globals)) = false)
    (h : wpAny (model prog w) A (eval iter env) (fun xv s₁ => wpAny (model prog w) A (pyIter xv) (fun it s₂ => ∃ I oI news, it = .ref I ∧ oI.cls = .type "list_iterator" ∧ oI.data = .fields #[.ref lx, .int 0 0] ∧ Fr h₀ L s₂.heap m ∧ News h₀ L s₂.heap ((I, oI) :: news) ∧ (∀ p ∈ news, p.1 ≠ I) ∧ S' news ∧ J [] [] news ∧
      PcStep prog w A h₀ L m env elt ifs a b scope cl s₂ S' J xs ∧ (∀ D h tk ys news', D = s₂.heap.objs.size → Fr h₀ L h (fun z => if z = y then some (.ref D) else m z) → News h₀ L h ((D, lst ys) :: news') → Off1 D news' → J xs ys news' → S' news' → Q .next { s₂ with heap := h, toks := tk })) E s₁) E s)
    (hs : ∀ x, foldedSetIterable iter env x = pure x := by intro _; rfl) :
    wpAny (model prog w) A (exec (.Assign [.Name y py] (.ListComp elt [⟨.Tuple [.Name a pa, .Name b pb] kk tp, iter, ifs, 0⟩] scope pos) spos) env) Q E s := by
  subst hLe
  rw [exec_Assign_Name_used _ _ _ _ hsw]
  refine wpAny_bind (wpAny_standAt (wpAny_bind ?_))
  show wpAny _ A (do let _ ← comprehension (.ListComp elt [⟨.Tuple [.Name a pa, .Name b pb] kk tp, iter, ifs, 0⟩] scope pos) scope env _ (newList []) false (eval iter env) (some (assign (.Name y py) env))) _ _ s
  refine wpAny_bind (wpAny_mono (wpAny_comprehension_free (use := some (assign (.Name y py) env)) (Q := fun _ s' => Q .next s') rfl hs hclos hkind hnames
    (wpAny_mono h (fun xv s₁ h₁ => wpAny_mono h₁ (fun it s₂ h₂ => ?_) fun _ _ e => e) fun _ _ e => e)) (fun _ s' hq => wpAny_pure (wpAny_pure hq)) fun _ _ e => e)
  obtain ⟨I, oI, news, rfl, hc, hd, F, N, off, hS0, hJ0, R, fin⟩ := h₂
  refine pc_block hh hsz hox hS hc hd hcell hkind hxa hxb hab F N off hS0 hJ0 R ?_
  intro D C h' tk m' ys news' eD F' N' o1 hn hC₀ hD₀ hCL hDL hCD offC hJ hS'
  show wpAny _ A (assign (.Name y py) env (.ref D)) _ _ _
  refine wpAny_assign_Name (wpAny_storeName_local hy F'.ns (fun h₂ hn₂ hs₂ => ?_) hp)
  have hL₀ : h₀.get? env.locals = none := Heap.get?_none_of_le F'.above
  have F₂ : Fr h₀ env.locals h₂ (fun z => if z = y then some (.ref D) else m z) := ⟨hn₂, fun b o e => hs₂.extBut b o (fun q => by rw [q, hL₀] at e; cases e) (F'.keep b o e), F'.above⟩
  refine ⟨m', hn.sameBut hs₂ hCL, fun h'' hs'' => fin D h'' _ ys news' eD (F₂.change hs'' hCL hC₀) (fun p hp => ?_) o1 hJ hS'⟩
  have z : h₂.get? p.1 = some p.2 := hs₂.extBut _ _ (N' p hp).2.1 (N' p hp).1
  refine ⟨hs''.extBut _ _ ?_ z, (N' p hp).2⟩
  rcases List.mem_cons.mp hp with rfl | hp
  · exact Ne.symm hCD
  · exact offC p hp
end
end Mine
end
-- PJ
section
open PySem PySem.W PyProof.Rows PySem.Spec PySem.Calls
set_option Elab.async false
namespace Mine
theorem join_nil (ys : List (List Nat)) : Str.join (S []) (ys.map S) = S ys.flatten := by
  rw [join_S]
  cases ys with
  | nil => rfl
  | cons p r => simp
theorem sum_len (ys : List (List Nat)) : ((ys.map S).map (·.length)).sum = ys.flatten.length := by
  induction ys with
  | nil => rfl
  | cons p r ih =>
    simp only [List.map_cons, List.sum_cons, List.flatten_cons, List.length_append]
    rw [ih, S_len]
theorem join_A {prog : Program} {w : World} {A : Around} {E : Value → Shared → Prop} {s : Shared} {t : Tok} {Q : Value → Shared → Prop} {D : Addr} {o : Obj} {zs : List Value} {n : Nat} {ys : List (List Nat)} (hD : s.heap.get? D = some o) (hc : o.cls = .type "list") (hd : o.data = .seq zs.toArray n)
    (hz : StrsA zs ys) (h1 : ys.flatten.length ≤ 10000) (h2 : ys.length ≤ 10000)
    (h : ∀ t' k, Q (.str (S ys.flatten) t') { s with toks := k }) : wpAny (model prog w) A (call (.builtin "str.join") [.str "" t, .ref D]) Q E s := by
  refine join_listW (items := zs.toArray) (ys := ys.map S) ⟨o, hD, hc, n, hd⟩ hz.sa (by decide) (by rw [sum_len, List.length_map]; omega) fun t' k => ?_
  have e : Txt.join (Str.ofString "") (ys.map S) = S ys.flatten := by
    rw [← join_nil]; exact StrLaws.glued_eq_join _ _
  rw [e]; exact h t' k
theorem twos_flat : ∀ ys : List (List Nat), ys.length % 2 = 0 → ((twos ys).map fun p => p.1 ++ p.2).flatten = ys.flatten
  | [], _ => rfl
  | [_], h => by simp at h
  | a :: b :: r, h => by
    have := twos_flat r (by simp only [List.length_cons] at h; omega)
    simp only [twos, List.map_cons, List.flatten_cons, this, List.append_assoc]
theorem hpairs_ok {W : List Nat} (hW : W.length ≤ 100) : (hpairs W).length ≤ 300 ∧ tlen (hpairs W) ≤ 1000 ∧ ((hpairs W).map fun p => p.1 ++ p.2).flatten = W := by
  obtain ⟨p0, r0, e⟩ : ∃ p0 r0, rxF W.length W = p0 :: r0 := by
    cases W.length <;> simp only [rxF] <;> (try split) <;> exact ⟨_, _, rfl⟩
  obtain ⟨hpq, _, _, hev, htl, hyl⟩ := parts_ok hW e rfl
  have h3 := rxF_flat W.length W (Nat.le_refl _)
  rw [e] at h3
  rw [hpq]
  refine ⟨hyl, htl, ?_⟩
  rw [twos_flat _ hev]
  split
  · rename_i h; rw [h] at h3; simpa using h3
  · simpa using h3
end Mine
end
-- E_header
section
open PySem PySem.W PyProof.Rows PySem.Spec PySem.Calls
set_option Elab.async false
set_option maxRecDepth 100000
set_option maxHeartbeats 16000000
open PyProof.Rows.LCg
namespace Mine
theorem lt_above {D X : Nat} {o : Obj} {news : List (Addr × Obj)} (h : ∀ p ∈ news, p.1 < D) (hX : D < X) : ∀ p ∈ (D, o) :: news, p.1 < X := by
  intro p hp
  rcases List.mem_cons.mp hp with rfl | hp
  · exact hX
  · exact Nat.lt_trans (h p hp) hX
theorem fmt_of {w : World} {h₀ h : Heap} {L X DX x d l : Nat} {tb : Obj} {news : List (Addr × Obj)} {k0 k1 k2 k3 k4 k5 k6 k7 k8 k9 k10 k11 : Tok}
    (N : News h₀ L h ((X, listInst 200 DX #[] 0) :: (DX, dictOf [dE w "_initial_size" k0 (.int 0 k1)] 1) :: (l, listOf #[] 0) :: (x, instObj 116 d) ::
      (d, dictOf [dE w "_maxlen" k2 (.int 1000 k3), dE w "_continuation_ws" k4 (.str " " k5), dE w "_continuation_ws_len" k6 (.int 1 k7), dE w "_splitchars" k8 (.str "" k9), dE w "_lines" k10 (.ref l), dE w "_current_line" k11 (.ref X)] 6) :: (162, tb) :: news)) :
    ∃ φ : Fmt, φ.x = X ∧ φ.dx = DX ∧ φ.fm = x ∧ φ.df = d ∧ φ.ln = l ∧ News h₀ L h (FmtNews w φ tb #[] 0 news) :=
  ⟨⟨X, DX, x, d, l, fun n => [k0, k1, k2, k3, k4, k5, k6, k7, k8, k9, k10, k11].getD n 0⟩, rfl, rfl, rfl, rfl, rfl, news_sub N (by
    intro r hr
    simp only [FmtNews, FmtTl, List.mem_cons] at hr ⊢
    rcases hr with h | h | h | h | h | h | h <;> (repeat first | exact h | exact Or.inl h | apply Or.inr))⟩
theorem c_header {w : World} {p : Program} {loose : List Str} {mean : ExcName → Option Value} {mg mb : Str → Option Value} {news : List (Addr × Obj)} {tb : Obj} (W : List Nat) (hW : W.length ≤ 100) (tx : Tok) :
  ∀ (cn : Str) (nm : List (Str × NameKind)) (mr : List (Str × Const)) (a : Addr) (ccd : Value) (cl : List (Str × Addr)) (outer : List Env) (A₀ : Around) (base h₀ : Heap) (L : Addr) (m : Str → Option Value) (s : Shared) (Q E : Value → Shared → Prop),
    Below A₀ base outer h₀ → Fr h₀ L s.heap m → (hd.heap_1 w.params).In h₀ → News h₀ L s.heap ((162, tb) :: news) → Top p loose mean mg mb h₀ → CodeHd base 166 162 → TabW tb → AllBare s.gens → (∀ q ∈ news, q.1 ≠ 162) →
    (∀ (tb' : Obj) (T D n : Nat) (vs : List Value) (t : Tok) (h' : Heap) (g' : Array GenState) (tk' : Nat), TabW tb' → AllBare g' → (∀ q ∈ news, q.1 < D) → 162 < D → D < T → StrsA vs (((hpairs W).map (·.2)).filter (· ≠ [])) → Fr h₀ L h' m → News h₀ L h' ((T, tup2 (.str (S W) t) (.ref D)) :: (D, listOf vs.toArray n) :: (162, tb') :: news) → Q (.ref T) ⟨h', g', s.drawn, tk', s.os⟩) →
      wpAny (model PySem.Challenge.rw_wu0094_01.row.prog w) (ktrTop 400 1500 (some []) cn (fsc nm mr) L a ccd cl outer) (call (.ref 358) [.str (S W) tx]) Q E s := by
  k_fill
  k_with_none
  have hTl := S_len W
  intro cn nm mr a ccd cl outer A₀ base h₀ L m s Q E B F K N TT C hT G h162 hret
  obtain ⟨hpz, gz, dz, tz, oz⟩ := s
  dsimp only at F N hret G
  (k_with "execs cons" => ((rename Fr _ _ _ _ => FZ); refine gtkF FZ gz dz oz rfl ?_; intro tkF))
  refine wpAny_call ?_
  k_dflt k_enter
  (k_with "call ref int" => refine halt ?_)
  k_steps
  refine unhalt ?_
  k_with_none
  (k_with "execs cons" => ((rename Fr _ _ _ _ => FZ); refine gtkF FZ gz dz oz rfl ?_; intro tkF))
  rename Fr _ _ _ _ => F5
  rename News _ _ _ _ => N5
  rename Frag.In _ _ => K5
  rename Top _ _ _ _ _ _ => T5
  rename Below _ _ (_ :: _ :: outer) _ => B5
  refine wpAny_weaken (B := ktrTop 600 2000 (some []) _ (fsc _ _) _ _ _ _ _) rfl (Nat.le_of_ble_eq_true rfl) rfl rfl (Nat.le_of_ble_eq_true rfl) (c_acc _ _ _ _ _ _ _ _ _ _ _ _ _ _ _ _ B5 F5 K5 N5 T5 ?_)
  intro X DX k0 k1 h6 tk6 hDX hX F6 N6
  clear F5 N5
  have lX := lt_above (o := dictOf [dE w "_initial_size" k0 (.int 0 k1)] 1) hDX hX
  have lDX := hDX
  k_lt lDX
  k_lt lX
  (k_with "call ref" => refine halt ?_)
  k_steps
  refine unhalt ?_
  k_with_none
  (k_with "execs cons" => ((rename Fr _ _ _ _ => FZ); refine gtkF FZ gz dz oz rfl ?_; intro tkF))
  rename News _ _ _ _ => N7
  rename Below _ _ (_ :: outer) _ => B7
  rename Fr _ _ _ _ => F7
  obtain ⟨φ, e1, e2, e3, e4, e5, N8⟩ := fmt_of N7
  subst e1 e2 e3 e4 e5
  rename 162 < φ.df ∧ AllLt φ.df news => lD
  rename φ.fm < φ.ln ∧ _ ∧ _ ∧ _ => lL
  have hO : φ.Ord := ⟨by assumption, lL.1, lDX.1, hX, lD.1⟩
  clear N7
  refine wpAny_weaken (B := ktrTop 500 2000 (some []) _ (fsc _ _) _ _ _ _ _) rfl (Nat.le_of_ble_eq_true rfl) rfl rfl (Nat.le_of_ble_eq_true rfl)
    (c_ascii (φ := φ) (c := 0) (tb := tb) (news := news) W hW _ _ _ _ _ _ _ _ _ _ _ _ _ _ _ _ _ _ B7 F7 (by assumption) N8 (by assumption) C hT G hO ?n1 h162 ?_)
  case n1 => exact allLt_all lD.2 (Nat.le_refl _)
  intro tb2 vs c2 ts h8 g8 tk8 hT2 G2 hts P8 F8 N9
  clear N8 F7
  simp only [FmtNews, FmtTl] at N9
  (k_with "exec Assign cons ListComp" => refine halt ?_)
  (k_with "exec Assign" => refine halt ?_)
  k_steps
  refine unhalt ?_
  k_with_none
  (k_with "execs cons" => ((rename Fr _ _ _ _ => FZ); refine gtkF FZ gz dz oz rfl ?_; intro tkF))
  obtain ⟨hxs, htl, hflat⟩ := hpairs_ok hW
  refine pc_Assign (lx := φ.x) (ox := listInst 200 φ.dx vs c2) (its := vs) (nx := c2) (xs := hpairs W) (S' := fun nw => (φ.x, listInst 200 φ.dx vs c2) ∈ nw ∧ PairsIn nw vs.toList (hpairs W))
    (J := fun done ys nw => ∃ ts', nw = ts' ++ FmtNews w φ tb2 vs c2 (ts ++ news) ∧ PairsIn ts' ys done ∧ ∀ q ∈ ts', φ.x < q.1) F8 rfl rfl (Nat.le_trans hxs (by decide)) rfl (fun _ h => h) (by with_unfolding_all rfl) rfl (by decide) rfl (by decide) rfl rfl (by decide) rfl rfl ?_ (fun _ => rfl)
  (k_with "pyIter ref" => refine halt ?_)
  k_steps
  refine unhalt ?_
  k_with_none
  (k_with "execs cons" => ((rename Fr _ _ _ _ => FZ); refine gtkF FZ gz dz oz rfl ?_; intro tkF))
  refine pyIter_L (K := hd.heap_1 _) (C := 200) (Frag.In.keeps (by assumption) F8.keep) (by k_inst) (by k_is) (by k_is) ?_
  have F10 := Fr.push F8 { cls := .type "list_iterator", data := .fields #[.ref φ.x, .int 0 0] }
  have N10 := News.push F8 N9 { cls := .type "list_iterator", data := .fields #[.ref φ.x, .int 0 0] } rfl
  refine ⟨_, _, _, rfl, rfl, rfl, F10, N10, fun p hp => Nat.ne_of_lt (Heap.lt_size (N9 p hp).1), ⟨by k_mem, P8.mono ?m1⟩, ⟨[], rfl, trivial, fun _ h => nomatch h⟩, ?step, ?fin⟩
  case m1 =>
    intro r hr
    simp only [List.mem_cons, List.mem_append]
    exact .inr (.inr (.inr (.inr (.inr (.inr (.inl hr))))))
  case step =>
    rintro done p q r ys nw t u I oI C oC D m₂ h tk E' hd ⟨ts', rfl, P', h'⟩ hS' hl hC' ha hb F11 N11 off ne
    refine wpAny_tests_nil ?_
    rw [if_pos rfl]
    (k_with "CompEnd" => refine halt ?_)
    k_steps
    refine unhalt ?_
    k_with_none
    (k_with "execs cons" => ((rename Fr _ _ _ _ => FZ); refine gtkF FZ gz dz oz rfl ?_; intro tkF))
    rename Fr _ _ _ _ => F12
    rename News _ _ _ _ => N12
    rename_i T h12 lT
    have lTb := allLt_all lT.2.2.2 (Nat.le_refl _)
    refine CompEnd.intro F12 N12 ((T, pairObj p q t u) :: ts' ++ FmtNews w φ tb2 vs c2 (ts ++ news)) ?sub ⟨⟨Nat.ne_of_gt lT.1, Nat.ne_of_gt lT.2.1, Nat.ne_of_gt lT.2.2.1⟩, off⟩ ⟨.tail _ hS'.1, hS'.2.mono fun r hr => .tail _ hr⟩ ⟨(T, pairObj p q t u) :: ts', rfl, PairsIn.snoc (.head _) (P'.mono fun r hr => .tail _ hr), ?gt⟩
    case sub =>
      intro r hr
      simp only [List.mem_cons, List.cons_append] at hr ⊢
      rcases hr with h | h | h | h | h
      · exact .inr (.inl h)
      · exact .inr (.inr (.inl h))
      · exact .inr (.inr (.inr (.inl h)))
      · exact .inl h
      · exact .inr (.inr (.inr (.inr h)))
    case gt =>
      intro r hr
      rcases List.mem_cons.mp hr with rfl | hr
      · exact lTb (φ.x, _) (List.mem_append.mpr (.inr (.tail _ (.head _))))
      · exact h' r hr
  case fin =>
    rintro D h tk ys nw _ F11 N11 off ⟨ts', rfl, P', h'⟩ hS'
    dsimp only
    clear F10 N10 N9 F8
    replace N11 : News _ _ h ((D, lst ys) :: (162, tb2) :: (ts' ++ news)) := news_sub N11 (by
      intro r hr
      simp only [FmtNews, FmtTl, List.mem_cons, List.mem_append] at hr ⊢
      rcases hr with h | h | h | h
      · exact .inl h
      · exact .inr (.inr (.inl h))
      · exact .inr (.inl h)
      · exact .inr (.inr (.inr (.inr (.inr (.inr (.inr (.inr (.inr h)))))))))
    clear hS' off
    (k_with "eval ListComp" => refine halt ?_)
    k_steps
    refine unhalt ?_
    k_with_none
    (k_with "execs cons" => ((rename Fr _ _ _ _ => FZ); refine gtkF FZ gz dz oz rfl ?_; intro tkF))
    refine pc_ListComp (lx := D) (ox := lst ys) (its := ys.toArray) (nx := ys.length) (xs := hpairs W) (S' := fun nw => (D, lst ys) ∈ nw ∧ PairsIn nw ys (hpairs W))
      (J := fun done zs nw => nw = (D, lst ys) :: (162, tb2) :: (ts' ++ news) ∧ StrsA zs (done.map fun p => p.1 ++ p.2)) F11 rfl (Nat.le_trans hxs (by decide)) rfl (fun _ h => h) rfl (by decide) rfl (by decide) rfl rfl (by decide) ?_ (fun _ => rfl)
    (k_with "pyIter ref" => refine halt ?_)
    k_steps
    refine unhalt ?_
    k_with_none
    (k_with "execs cons" => ((rename Fr _ _ _ _ => FZ); refine gtkF FZ gz dz oz rfl ?_; intro tkF))
    refine wpAny_pyIter_list (items := ys.toArray) ⟨_, (N11 (D, lst ys) (.head _)).1, rfl, _, rfl⟩ ?_
    have F12 := Fr.push F11 { cls := .type "list_iterator", data := .fields #[.ref D, .int 0 0] }
    have N12 := News.push F11 N11 { cls := .type "list_iterator", data := .fields #[.ref D, .int 0 0] } rfl
    refine ⟨_, _, _, rfl, rfl, rfl, F12, N12, fun p hp => Nat.ne_of_lt (Heap.lt_size (N11 p hp).1), ⟨by k_mem, P'.mono fun r hr => .tail _ (.tail _ (List.mem_append.mpr (.inl hr)))⟩, ⟨rfl, .nil⟩, ?step, ?fin⟩
    case step =>
      clear F12 N12
      rintro done p q r zs nw t u I oI C oC D2 m₂ h tk E' hd ⟨rfl, hz⟩ hS' hl hC' ha hb F13 N13 off ne
      have hpq : tlen [(p, q)] ≤ 1000 := by
        have := congrArg tlen hd
        rw [show (p, q) :: r = [(p, q)] ++ r from rfl, tlen_app, tlen_app] at this
        omega
      simp only [tlen, List.map_cons, List.map_nil, List.sum_cons, List.sum_nil] at hpq
      have hpl := S_len p
      have hql := S_len q
      refine wpAny_tests_nil ?_
      rw [if_pos rfl]
      (k_with "CompEnd" => refine halt ?_)
      k_steps
      refine unhalt ?_
      k_with_none
      (k_with "execs cons" => ((rename Fr _ _ _ _ => FZ); refine gtkF FZ gz dz oz rfl ?_; intro tkF))
      rw [S_app]
      exact CompEnd.intro F13 N13 ((D, lst ys) :: (162, tb2) :: (ts' ++ news)) (fun r hr => hr) off hS' ⟨rfl, by rw [List.map_append]; exact hz.snoc (p ++ q) _⟩
    case fin =>
      rintro D2 h tk zs nw _ F13 N13 off ⟨rfl, hz⟩ hS'
      dsimp only
      clear F12 N12 N11 F11
      k_steps
      refine join_A (N13 (D2, lst zs) (.head _)).1 rfl rfl hz (by rw [hflat]; omega) (by rw [List.length_map]; omega) fun t4 k4 => ?_
      rw [hflat]
      replace N13 : News _ _ h ((D, lst ys) :: (162, tb2) :: (ts' ++ news)) := news_sub N13 fun r hr => .tail _ hr
      clear off hz
      (k_with "eval ListComp" => refine halt ?_)
      k_steps
      refine unhalt ?_
      k_with_none
      (k_with "execs cons" => ((rename Fr _ _ _ _ => FZ); refine gtkF FZ gz dz oz rfl ?_; intro tkF))
      rename Fr _ _ _ _ => F14
      rename News _ _ _ (_ :: _) => N14
      refine pc_ListComp (lx := D) (ox := lst ys) (its := ys.toArray) (nx := ys.length) (xs := hpairs W) (S' := fun nw => (D, lst ys) ∈ nw ∧ PairsIn nw ys (hpairs W))
        (J := fun done zs nw => nw = (D, lst ys) :: (162, tb2) :: (ts' ++ news) ∧ StrsA zs ((done.map (·.2)).filter (· ≠ []))) F14 rfl (Nat.le_trans hxs (by decide)) rfl (fun _ h => h) rfl (by decide) rfl (by decide) rfl rfl (by decide) ?_ (fun _ => rfl)
      (k_with "pyIter ref" => refine halt ?_)
      k_steps
      refine unhalt ?_
      k_with_none
      (k_with "execs cons" => ((rename Fr _ _ _ _ => FZ); refine gtkF FZ gz dz oz rfl ?_; intro tkF))
      refine wpAny_pyIter_list (items := ys.toArray) ⟨_, (N14 (D, lst ys) (.head _)).1, rfl, _, rfl⟩ ?_
      have F15 := Fr.push F14 { cls := .type "list_iterator", data := .fields #[.ref D, .int 0 0] }
      have N15 := News.push F14 N14 { cls := .type "list_iterator", data := .fields #[.ref D, .int 0 0] } rfl
      refine ⟨_, _, _, rfl, rfl, rfl, F15, N15, fun p hp => Nat.ne_of_lt (Heap.lt_size (N14 p hp).1), hS', ⟨rfl, .nil⟩, ?step, ?fin⟩
      case step =>
        clear F15 N15 hS'
        rintro done p q r zs nw t u I oI C oC D2 m₂ h tk E' hd ⟨rfl, hz⟩ hS' hl hC' ha hb F13 N13 off ne
        refine wpAny_tests_one ?_
        (k_with "CompEnd" => refine halt ?_)
        k_steps
        all_goals (refine unhalt ?_; k_with_none; rename (S q != _) = _ => hqe; rw [show Str.ofString "" = S [] from rfl, bne, S_beq] at hqe)
        · refine CompEnd.intro F13 N13 ((D, lst ys) :: (162, tb2) :: (ts' ++ news)) (fun r hr => hr) off hS' ⟨rfl, ?_⟩
          rw [List.map_append, List.filter_append]
          have e : List.filter (fun x => decide (x ≠ [])) (List.map (fun x => x.2) [(p, q)]) = [q] := by simpa using hqe
          rw [e]
          exact hz.snoc q _
        · refine CompEnd.intro F13 N13 ((D, lst ys) :: (162, tb2) :: (ts' ++ news)) (fun r hr => hr) off hS' ⟨rfl, ?_⟩
          rw [List.map_append, List.filter_append]
          have e : List.filter (fun x => decide (x ≠ [])) (List.map (fun x => x.2) [(p, q)]) = [] := by simpa using hqe
          rw [e, List.append_nil]
          exact hz
      case fin =>
        rintro D2 h tk zs nw eD F16 N16 off ⟨rfl, hz⟩ hS'
        have hlow : ∀ p ∈ (D, lst ys) :: (162, tb2) :: (ts' ++ news), p.1 < D2 := fun p hp => by
          rw [eD]
          exact Heap.lt_size (N15 p (.tail _ hp)).1
        dsimp only
        clear F15 N15 N14 F14 eD
        k_steps
        rename Fr h₀ _ _ _ => F17
        rename News h₀ _ _ _ => N17
        rename D2 < _ ∧ _ => l3
        refine hret tb2 _ D2 zs.length zs t4 _ _ _ hT2 G2 (fun q hq => hlow q (.tail _ (.tail _ (List.mem_append.mpr (.inr hq))))) (hlow (162, _) (.tail _ (.head _))) l3.1 hz F17 (news_sub N17 ?_)
        intro r hr
        simp only [List.mem_cons, List.mem_append] at hr ⊢
        rcases hr with h | h | h | h
        · exact .inl h
        · exact .inr (.inl h)
        · exact .inr (.inr (.inr (.inl h)))
        · exact .inr (.inr (.inr (.inr (.inr h))))
end Mine
end
-- E_name
section
open PySem PySem.W PyProof.Rows PySem.Spec PySem.Calls
set_option Elab.async false
set_option maxRecDepth 100000
set_option maxHeartbeats 16000000
namespace Mine
/-- the first n words -/
noncomputable def toksN : Nat → List Nat → List (List Nat)
  | 0, _ => []
  | n + 1, l => (tok l).1 :: toksN n (tok l).2
noncomputable def restN : Nat → List Nat → List Nat
  | 0, l => l
  | n + 1, l => restN n (tok l).2
theorem toksN_snoc : ∀ (n : Nat) (l : List Nat), toksN (n + 1) l = toksN n l ++ [(tok (restN n l)).1]
  | 0, _ => rfl
  | n + 1, l => by rw [toksN, toksN_snoc n, toksN, restN]; rfl
theorem restN_snoc : ∀ (n : Nat) (l : List Nat), restN (n + 1) l = (tok (restN n l)).2
  | 0, _ => rfl
  | n + 1, l => by rw [restN, restN_snoc n, restN]
theorem rep_len2 (x : List Nat) : (rep 92 [92, 92] x).length ≤ 2 * x.length := by
  unfold rep
  induction x with
  | nil => simp
  | cons a r ih =>
    rw [List.flatMap_cons, List.length_append, List.length_cons]; split
    · simp only [List.length_cons, List.length_nil]; omega
    · rw [List.length_singleton]; omega
theorem repl_txtE {prog : Program} {w : World} {A : Around} {E : Value → Shared → Prop} {s₁ : Shared} {x : List Nat} (c : Nat) (z' : List Nat) {T9 : List Nat} (e : rep c z' x = T9) {t u v : Tok} {y z : Str} {Q : Value → Shared → Prop} (hy : y = S [c]) (hz : z = S z') (hu : u ≠ 0) (hv : v ≠ 0) (huv : u ≠ v) (hne : [c] ≠ z') (hx : x.length ≤ 1000000) (hzl : z'.length ≤ 14)
    (h : ∀ t' k, Q (.str (S T9) t') { s₁ with toks := k }) : wpAny (model prog w) A (call (.builtin "str.replace") [.str (S x) t, .str y u, .str z v]) Q E s₁ :=
  repl_txt c z' hy hz hu hv huv hne hx hzl (by rw [e]; exact h)
noncomputable abbrev JNm (w : World) (l : Lex) (σ : Strm) (T9 : List Nat) (many : Nat) (L1 : Addr) (oD : Obj) (news : List (Addr × Obj)) (i : Nat) (ys : List Value) (news' : List (Addr × Obj)) : Prop :=
  ∃ (k n' : Nat) (tkA tnA : Tok) (xs : List (List Nat)), k ≤ T9.length ∧ n' + nl (T9.drop k) = 1 + nl T9 ∧ StrsA ys xs ∧ ys.length = i ∧ i ≤ 1 + many ∧
    xs = toksN i T9 ∧ T9.drop k = restN i T9 ∧ news' = LexNews w l σ k n' tkA tnA ((348, tabObj #[rawInt 288, rawInt 4, .ref σ.c]) :: (L1, oD) :: news)
theorem c_name {w : World} {p : Program} {loose : List Str} {mean : ExcName → Option Value} {mg mb : Str → Option Value} {news : List (Addr × Obj)} (tx tm : Tok) (R : List Nat) (hR0 : R.length < 100) (many : Nat) (hm : many ≤ 60) {tb : Obj} :
  ∀ (cn : Str) (nm : List (Str × NameKind)) (mr : List (Str × Const)) (a : Addr) (ccd : Value) (cl : List (Str × Addr)) (outer : List Env) (A₀ : Around) (base h₀ : Heap) (L : Addr) (m : Str → Option Value) (s : Shared) (Q E : Value → Shared → Prop),
    Below A₀ base outer h₀ → Fr h₀ L s.heap m → (hd.heap_1 w.params).In h₀ → News h₀ L s.heap ((348, tb) :: news) → Top p loose mean mg mb h₀ → CodeHd base 352 348 → (∀ p ∈ news, p.1 ≠ 348) → TabOk tb news → s.toks ≠ 0 →
    (CutRet h₀ L m news s Q (1 + nl (rep 92 [92, 92] R) - nl (restN (1 + many) (rep 92 [92, 92] R))) (toksN (1 + many) (rep 92 [92, 92] R))) →
      wpAny (model PySem.Challenge.rw_wu0094_01.row.prog w) (ktrTop 600 3000 (some []) cn (fsc nm mr) L a ccd cl outer) (call (.ref 368) [.str (S R) tx, .int many tm]) Q E s := by
  k_fill
  k_with_none
  have hRl := S_len R
  have hT : (rep 92 [92, 92] R).length < 200 := by have := rep_len2 R; omega
  intro cn nm mr a ccd cl outer A₀ base h₀ L m s Q E B F K N TT C h348 hT2 h0 hret
  obtain ⟨hpz, gz, dz, tz, oz⟩ := s
  dsimp only at F N hret
  (k_with "execs cons" => ((rename Fr _ _ _ _ => FZ); refine gtkF FZ gz dz oz rfl ?_; intro tkF))
  have hrl : (rep 92 [92, 92] R).length < 200 := hT
  generalize hT9e : rep 92 [92, 92] R = T9 at hT hret hrl
  refine wpAny_call ?_
  k_dflt (refine' enter_toks ?k1 ?k2 ?k3 ?k4 ?k5 ?kA ?kF ?kK ?k6 ?k7 ?k8 ?k9 ?kB ?kD ?_ ?c2 ?c3 ?c4; (case kA => exact rfl); (case kF => exact rfl); (case kK => exact rfl); (case k1 => k_asm); (case k2 => k_asm); (case k3 => k_asm); (case k4 => k_asm); (case k5 => k_asm); (case k6 => k_is); (case k7 => k_is); (case k8 => k_room); (case k9 => exact BindsTo.of_eq rfl); (case kB => exact rfl); (case kD => decide +kernel); (case c2 => exact rfl); (case c3 => exact rfl); (case c4 => exact rfl); k_whole; intro g' L' h' tk' cells' ht' FG' F' N' Y' B' X' T' l1; (try k_lt l1); k_cells Y'; (try simp only [List.cons_append, List.nil_append] at N'); (try dsimp only); (try k_lift B'); (try k_fold))
  have htk0 : tk' ≠ 0 := by omega
  (k_with "execs cons" => (refine gtkS (by with_unfolding_all exact Nat.succ_ne_zero _) ?_; intro tk9 htk9))
  (k_with "call builtin:str.replace" => ((first | refine repl_txtE 92 [92, 92] hT9e (by with_unfolding_all rfl) (by with_unfolding_all rfl) (by first | assumption | with_unfolding_all exact Nat.succ_ne_zero _) (by with_unfolding_all exact Nat.succ_ne_zero _) (by first | exact Nat.ne_of_lt (Nat.lt_succ_self _) | ((show @Ne Nat _ _); omega)) (by decide) (by omega) (by decide) ?_); intro t9 k9))
  (k_with "call ref" => refine halt ?_)
  k_steps
  k_with_none
  (k_with "execs cons" => ((rename Fr _ _ _ _ => FZ); refine gtkF FZ gz dz oz rfl ?_; intro tkF))
  refine unhalt ?_
  rename Fr _ _ _ _ => F1
  rename News _ _ _ _ => N1
  rename Below _ _ _ _ => B1
  rename Frag.In _ _ => K1
  rename Top _ _ _ _ _ _ => T1
  (try dsimp only [List.nil_append, List.cons_append, List.append_nil])
  have hdt := (show Obj.data _ = Data.cell none by with_unfolding_all assumption)
  obtain ⟨oC, hoC, N1⟩ : ∃ oC : Obj, oC.data = .cell none ∧ News g' L' _ ((L' + 1, oC) :: (348, tb) :: news) := ⟨_, hdt, N1⟩
  refine wpAny_weaken (B := ktrTop 700 4000 (some []) _ (fsc _ _) _ _ _ _ _) rfl (Nat.le_of_ble_eq_true rfl) rfl rfl (Nat.le_of_ble_eq_true rfl) (c_stream (news := (L' + 1, oC) :: news) _ T9 hT _ _ _ _ _ _ _ _ _ _ _ _ _ _ _ B1 F1 K1 (news_sub (news := (348, tb) :: (L' + 1, oC) :: news) N1 ?n1) T1 C ?n2 ?n3 ?rr)
  case n1 =>
    intro p hp
    simp only [List.mem_cons] at hp ⊢
    rcases hp with h | h | h <;> simp [h]
  case n2 =>
    intro p hp
    rcases List.mem_cons.mp hp with rfl | hp
    · exact Nat.ne_of_gt (Nat.lt_succ_of_lt l1.1)
    · exact h348 p hp
  case n3 => exact hT2.tail
  intro σ D t h9 tk9 hO hD hlow h349 hR F2 N2 hcode
  clear F1 N1
  dsimp only [StreamNews] at N2
  have hcL : σ.c ≠ L' + 1 := by
    intro e
    obtain ⟨vs9, t9, hv1, hv2⟩ := hcode
    have g1 := (N2 (σ.c, σ.oc) (by k_mem)).1
    have g2 := (N2 (L' + 1, oC) (by k_mem)).1
    dsimp only at g1 g2
    rw [e] at g1
    rw [Option.some.inj (g1.symm.trans g2), hoC] at hv1
    cases hv1
  have hO' := hO
  dsimp only [Strm.Ord] at hO'
  have hlow' : AllLt σ.c1 news := allLt_of fun q hq => hlow q (.tail _ hq)
  have hL1 : (L' + 1 : Nat) < σ.c1 := hlow (L' + 1, oC) (.head _)
  have hL2 : ∀ q ∈ news, q.1 ≠ L' + 1 := fun q hq => Nat.ne_of_lt (Nat.lt_succ_of_lt (allLt_all l1.2 (Nat.le_refl _) q hq))
  have hL3 : (348 : Nat) < L' + 1 := Nat.lt_succ_of_lt l1.1
  dsimp only
  k_steps
  k_with_none
  (k_with "execs cons" => ((rename Fr _ _ _ _ => FZ); refine gtkF FZ gz dz oz rfl ?_; intro tkF))
  rename Fr g' L' _ _ => F3
  rename News g' L' _ _ => N3
  rename_i xl dl hq1 hq1b Nq1 l1a l2a gg gq Lq hq2 Bq Xq Tq tf2 hq3 tf1 hq4 tf0 hq5 lp hq6 l1b hq7 Fq Nq Tcq kXq
  have hge : ∀ b : Nat, σ.c1 ≤ b → b ≠ L' + 1 := fun b hb => Nat.ne_of_gt (Nat.lt_of_lt_of_le hL1 hb)
  have hdl : (D : Nat) < dl := l1a.1
  have hxl : (dl : Nat) < xl := l2a
  have hlp : (xl : Nat) < lp := l1b.1
  k_dflt (refine' storeX_C F3 N3 ?c ?U ?d ?_ ?a ?b; (case a => rfl); (case b => rfl); (case c => rfl); (case U => exact UpdF.tail (by first | exact hcL | exact Nat.ne_of_lt hL3 | exact hge _ (by omega)) (UpdF.tail (by first | exact hcL | exact Nat.ne_of_lt hL3 | exact hge _ (by omega)) (UpdF.tail (by first | exact hcL | exact Nat.ne_of_lt hL3 | exact hge _ (by omega)) (UpdF.tail (by first | exact hcL | exact Nat.ne_of_lt hL3 | exact hge _ (by omega)) (UpdF.tail (by first | exact hcL | exact Nat.ne_of_lt hL3 | exact hge _ (by omega)) (UpdF.tail (by first | exact hcL | exact Nat.ne_of_lt hL3 | exact hge _ (by omega)) (UpdF.tail (by first | exact hcL | exact Nat.ne_of_lt hL3 | exact hge _ (by omega)) (UpdF.tail (by first | exact hcL | exact Nat.ne_of_lt hL3 | exact hge _ (by omega)) (UpdF.tail (by first | exact hcL | exact Nat.ne_of_lt hL3 | exact hge _ (by omega)) (UpdF.tail (by first | exact hcL | exact Nat.ne_of_lt hL3 | exact hge _ (by omega)) (UpdF.tail (by first | exact hcL | exact Nat.ne_of_lt hL3 | exact hge _ (by omega)) (UpdF.tail (by first | exact hcL | exact Nat.ne_of_lt hL3 | exact hge _ (by omega)) (UpdF.tail (by first | exact hcL | exact Nat.ne_of_lt hL3 | exact hge _ (by omega)) (UpdF.head hL2)))))))))))))); (case d => exact hoC); k_whole)
  intro h3 oD F4 N4 hoD
  (try dsimp only at N4)
  clear F3 N3
  (k_with "exec Assign cons ListComp" => refine halt ?_)
  k_steps
  k_with_none
  (k_with "execs cons" => ((rename Fr _ _ _ _ => FZ); refine gtkF FZ gz dz oz rfl ?_; intro tkF))
  refine unhalt ?_
  refine Assign_fx (cl := [("lexer", L' + 1)]) rfl rfl rfl (by decide) ?_
  (k_with "pyIter ref" => refine halt ?_)
  k_steps
  k_with_none
  (k_with "execs cons" => ((rename Fr _ _ _ _ => FZ); refine gtkF FZ gz dz oz rfl ?_; intro tkF))
  refine unhalt ?_
  rename IsRange _ _ _ _ _ _ _ _ => hRg
  rename Heap => hR5
  rename Fr g' L' _ _ => F5
  rename News g' L' _ _ => N5
  have hcast : (1 + (many : Int)) = ((1 + many : Nat) : Int) := by omega
  rw [hcast] at hRg
  refine pyIter_to hRg (by omega) ?_
  have N6 := News.push F5 N5 { cls := .type "range_iterator", data := .fields #[rawInt 0, rawInt ((1 + many : Nat) : Int), rawInt 1] } rfl
  have F6 := Fr.push F5 { cls := .type "range_iterator", data := .fields #[rawInt 0, rawInt ((1 + many : Nat) : Int), rawInt 1] }
  have hIlt := news_lt N5
  have hI0 := (N6 _ (.head _)).2
  have hI1 := (N6 _ (.head _)).1
  obtain ⟨l, hlx, hldl, hllp, N7⟩ := lex_of (w := w) (σ := σ) (lx := xl) (dl := dl) (lp := lp) N6
  have hL : l.Ord σ := by dsimp only [Lex.Ord]; rw [hlx, hldl, hllp]; omega
  have hlpI : l.lp < _ := hllp ▸ hIlt (lp, _) (.head _)
  have hcI := hIlt (σ.c, σ.oc) (.tail _ (.tail _ (.tail _ (.tail _ (.tail _ (.tail _ (.tail _ (.tail _ (.head _)))))))))
  have hlx := hlx.symm
  subst hlx
  have N8 := news_tl N7
  have hIlt2 : ∀ p ∈ LexNews w l σ 0 1 0 0 ((348, tabObj #[rawInt 288, rawInt 4, .ref σ.c]) :: (L' + 1, oD) :: news), p.1 < hR5.objs.size := fun p hp => by
    rcases List.mem_append.mp (show p ∈ LexNews w l σ 0 1 0 0 [] ++ ((348, tabObj #[rawInt 288, rawInt 4, .ref σ.c]) :: (L' + 1, oD) :: news) from hp) with h | h
    · exact lexNews_below hO hL hlpI hcI p h
    · exact hIlt p (.tail _ (.tail _ (.tail _ (.tail _ (.tail _ (.tail _ (.tail _ (.tail _ (.tail _ (.tail _ (.tail _ (.tail _ (h)))))))))))))
  have hL' := hL
  dsimp only [Lex.Ord] at hL'
  refine comp_fx (cl := [("lexer", L' + 1)]) (J := JNm w l σ T9 many (L' + 1) oD news) (news := LexNews w l σ 0 1 _ _ ((348, tabObj #[rawInt 288, rawInt 4, .ref σ.c]) :: (L' + 1, oD) :: news))
    (hLe := rfl) (hy := rfl) (hpy := rfl) (hh := rfl) (hcell := by decide) (hkind := rfl) (hx := rfl) (hn := by omega) (F := F6) (N := N8) (hst := hI1) (hIn := hI0.2) (hIL := hI0.1) (hJ0 := ?j0) (hJlt := ?jlt) (helt := ?elt) (hQ := ?fin)
  case j0 => exact ⟨0, 1, _, _, [], Nat.zero_le _, by simp, .nil, rfl, Nat.zero_le _, rfl, rfl, rfl⟩
  case jlt =>
    rintro i ys news' ⟨k, n', tkA, tnA, xs, _, _, _, hlen, _, _, _, rfl⟩
    exact ⟨hlen, lexNews_lt hIlt2⟩
  case elt =>
    rintro i ys news' oI oC C9 D9 cc h8 tk8 E8 hin hID hDC ⟨k, n', tkA, tnA, xs, hk, hn', hxs, hlen, hi, hT9, hdk, rfl⟩ F9 N9
    change Fr g' L' _ _ at F9
    change News g' L' _ _ at N9
    have N9' := N9
    dsimp only [LexNews] at N9
    (k_with "call ref" => refine halt ?_)
    k_steps
    k_with_none
    (k_with "execs cons" => ((rename Fr _ _ _ _ => FZ); refine gtkF FZ gz dz oz rfl ?_; intro tkF))
    refine unhalt ?_
    dsimp only [List.append_nil]
    refine wpAny_weaken (B := ktrTop 800 6000 (some []) _ (fsc _ _) _ _ _ _ _) rfl (Nat.le_of_ble_eq_true rfl) rfl rfl (Nat.le_of_ble_eq_true rfl) (wpAny_call (c_tok (k := k) (n := n') (tk := tkA) (tn := tnA) (news := (hR5.objs.size, oI) :: (C9, oC) :: (D9, listOf ys.toArray cc) :: (348, tabObj #[rawInt 288, rawInt 4, .ref σ.c]) :: (L' + 1, oD) :: news) hR hO hL hT hk ?g0 ?g1 _ _ _ _ _ _ _ _ _ _ _ _ _ _ B1 F9 K1 (news_move (a := [(hR5.objs.size, oI), (C9, oC), (D9, listOf ys.toArray cc)]) (b := LexNews w l σ k n' tkA tnA []) (c := (348, tabObj #[rawInt 288, rawInt 4, .ref σ.c]) :: (L' + 1, oD) :: news) N9') T1 C ?g3))
    case g0 => have := List.count_le_length (a := 10) (l := T9); unfold nl at hn' ⊢; omega
    case g1 =>
      intro q hq
      simp only [List.mem_cons] at hq
      rcases hq with rfl | rfl | rfl | rfl | rfl | hq
      · exact .inr hlpI
      · exact .inr (Nat.lt_trans hlpI (Nat.lt_trans hID hDC))
      · exact .inr (Nat.lt_trans hlpI hID)
      · exact .inl h349
      · exact .inl hL1
      · exact .inl (hlow q (.tail _ hq))
    intro k2 n2 t2 tk2 tn2 h2 q2 hd2 hk2' hn2 F10 N10
    refine ⟨h2, q2, LexNews w l σ k2 n2 tk2 tn2 ((348, tabObj #[rawInt 288, rawInt 4, .ref σ.c]) :: (L' + 1, oD) :: news), rfl, F10, news_move (a := LexNews w l σ k2 n2 tk2 tn2 []) (b := [(hR5.objs.size, oI), (C9, oC), (D9, listOf ys.toArray cc)]) (c := (348, tabObj #[rawInt 288, rawInt 4, .ref σ.c]) :: (L' + 1, oD) :: news) N10, k2, n2, tk2, tn2, xs ++ [(tok (T9.drop k)).1], hk2', by omega, hxs.snoc _ _, by simp [hlen], by omega, ?g6, ?g7, rfl⟩
    case g6 => rw [toksN_snoc, ← hdk, hT9]
    case g7 => rw [restN_snoc, ← hdk, hd2]
  case fin =>
    rintro D9 cc ys h8 tk8 news' ⟨k, n', tkA, tnA, xs, hk, hn', hxs, hlen, hi, hT9, hdk, rfl⟩ hID F9 N9
    change Fr g' L' _ _ at F9
    change News g' L' _ _ at N9
    dsimp only [LexNews] at N9
    k_with_none
    (k_with "execs cons" => ((rename Fr _ _ _ _ => FZ); refine gtkF FZ gz dz oz rfl ?_; intro tkF))
    k_steps
    rename Fr h₀ _ _ _ => F8
    rename News h₀ _ _ _ => N8
    rename_i D8 hq8 Fq8 Nq8 l8 Tc8 kX8
    obtain ⟨vs9, t9, hv1, hv2⟩ := hcode
    have hD348 : D8 ≠ 348 := by
      intro e
      have g1 := (N8 (D8, _) (.head _)).1
      have g2 := (N8 (348, tabObj #[rawInt 288, rawInt 4, .ref σ.c]) (by k_mem)).1
      rw [show ((D8, _) : Addr × Obj).1 = 348 from e] at g1
      have g3 := congrArg Obj.cls (Option.some.inj (g1.symm.trans g2))
      exact absurd g3 (by simp)
    have hD9' : D9 ≠ 348 := by
      intro e
      have g1 := (N8 (D9, listOf ys.toArray cc) (.tail _ (.head _))).1
      have g2 := (N8 (348, tabObj #[rawInt 288, rawInt 4, .ref σ.c]) (by k_mem)).1
      rw [show ((D9, listOf ys.toArray cc) : Addr × Obj).1 = 348 from e] at g1
      have g3 := congrArg Obj.cls (Option.some.inj (g1.symm.trans g2))
      exact absurd g3 (by simp)
    have hc348 : σ.c ≠ 348 := by
      intro e
      have g1 := (N8 (σ.c, σ.oc) (by k_mem)).1
      have g2 := (N8 (348, tabObj #[rawInt 288, rawInt 4, .ref σ.c]) (by k_mem)).1
      rw [show ((σ.c, σ.oc) : Addr × Obj).1 = 348 from e] at g1
      have g3 := Option.some.inj (g1.symm.trans g2)
      dsimp only at g3
      rw [g3] at hv1
      dsimp only at hv1
      rw [← Data.fields.inj hv1] at hv2
      exact absurd hv2 (by simp [rawInt])
    rw [hdk] at hn'
    have hnn : n' = 1 + nl T9 - nl (restN (1 + many) T9) := by omega
    rw [hT9] at hxs
    refine hret D8 D9 σ.c cc σ.oc (tabObj #[rawInt 288, rawInt 4, .ref σ.c]) tnA ys hq8 _ hxs (.inr ⟨σ.c, σ.oc, vs9, t9, rfl, by k_mem, hv1, hv2⟩) ?e1 F8 (news_sub N8 ?e2)
    case e1 => exact List.forall_mem_cons.mpr ⟨hD348, List.forall_mem_cons.mpr ⟨hD9', List.forall_mem_cons.mpr ⟨hc348, h348⟩⟩⟩
    case e2 =>
      rw [← hnn]
      exact List.forall_mem_cons.mpr ⟨by k_mem, List.forall_mem_cons.mpr ⟨by k_mem, List.forall_mem_cons.mpr ⟨by k_mem, List.forall_mem_cons.mpr ⟨by k_mem, fun p hp => by repeat (first | exact hp | apply List.Mem.tail)⟩⟩⟩⟩
end Mine
end
-- E_table
section
open PySem PySem.W PyProof.Rows PySem.Spec PySem.Calls
set_option Elab.async false
set_option maxRecDepth 100000
set_option maxHeartbeats 16000000
namespace Mine
noncomputable def tbl : Nat → List (Nat × List Nat)
  | 0 => []
  | 1 => [(38, [38, 97, 109, 112, 59]), (60, [38, 108, 116, 59])]
  | 2 => [(38, [38, 97, 109, 112, 59]), (60, [38, 108, 116, 59]), (34, [38, 113, 117, 111, 116, 59]), (9, [38, 35, 48, 57, 59]), (10, [38, 35, 49, 48, 59]), (13, [38, 35, 49, 51, 59])]
  | 3 => [(38, [38, 97, 109, 112, 59]), (34, [38, 113, 117, 111, 116, 59])]
  | 4 => [(38, [38, 97, 109, 112, 59]), (60, [38, 108, 116, 59]), (13, [38, 35, 120, 68, 59])]
  | _ => [(38, [38, 97, 109, 112, 59]), (60, [38, 108, 116, 59]), (34, [38, 113, 117, 111, 116, 59]), (9, [38, 35, 120, 57, 59]), (10, [38, 35, 120, 65, 59]), (13, [38, 35, 120, 68, 59])]
theorem c_tableX {w : World} {p : Program} {loose : List Str} {mean : ExcName → Option Value} {mg mb : Str → Option Value} {news : List (Addr × Obj)} (x : Int) (hx : x = 0 ∨ x = 1 ∨ x = 2 ∨ x = 3 ∨ x = 4 ∨ x = 5) (th : Tok) :
  ∀ (cn : Str) (nm : List (Str × NameKind)) (mr : List (Str × Const)) (a : Addr) (ccd : Value) (cl : List (Str × Addr)) (outer : List Env) (A₀ : Around) (base h₀ : Heap) (L : Addr) (m : Str → Option Value) (s : Shared) (Q E : Value → Shared → Prop),
    Below A₀ base outer h₀ → Fr h₀ L s.heap m → (hd.heap_1 w.params).In h₀ → News h₀ L s.heap news → Top p loose mean mg mb h₀ →
    (∀ (D : Nat) (o : Obj) (kvs : List (Str × Value)) (h' : Heap) (tk' : Nat), o.IsDictOf (PySem.strKind PySem.Challenge.rw_wu0094_01.row.prog w) kvs → TabOf kvs (tbl x.toNat) → (D == sysModules) = false → Fr h₀ L h' m → News h₀ L h' ((D, o) :: news) → Q (.ref D) { s with heap := h', toks := tk' }) →
      wpAny (model PySem.Challenge.rw_wu0094_01.row.prog w) (ktrTop 600 3000 (some []) cn (fsc nm mr) L a ccd cl outer) (call (.ref 341) [.int x th]) Q E s := by
  k_fill
  k_with_none
  intro cn nm mr a ccd cl outer A₀ base h₀ L m s Q E B F K N TT hret
  obtain ⟨hpz, gz, dz, tz, oz⟩ := s
  dsimp only at F N hret
  (k_with "execs cons" => ((rename Fr _ _ _ _ => FZ); refine gtkF FZ gz dz oz rfl ?_; intro tkF))
  have hret2 : ∀ (D : Nat) (o : Obj) (kvs : List (Str × Value)) (h' : Heap) (tk' : Nat), News h₀ L h' ((D, o) :: news) → o.IsDictOf (PySem.strKind PySem.Challenge.rw_wu0094_01.row.prog w) kvs → TabOf kvs (tbl x.toNat) → (D == sysModules) = false → Fr h₀ L h' m →  Q (.ref D) ⟨h', gz, dz, tk', oz⟩ := fun D o kvs h' tk' a1 a2 a3 a4 a5 => hret D o kvs h' tk' a2 a3 a4 a5 a1
  clear hret
  refine wpAny_call ?_
  k_dflt k_enter
  (k_with "eval Dict" => ((try dsimp only); (with_reducible refine gtok ?_); intro tk9))
  (k_with "eval Dict cons cons" => ((try dsimp only); (with_reducible refine gtok ?_); intro tk9))
  (k_with "eval Constant str" => ((try dsimp only); (with_reducible refine gtok ?_); intro tk9))
  (k_with "spliced" => ((try dsimp only); (with_reducible refine gtok ?_); intro tk9))
  (k_with "newList" => ((try dsimp only); (with_reducible refine gtok ?_); intro tk9))
  (k_with "storeName" => ((try dsimp only); (with_reducible refine gtok ?_); intro tk9))
  (k_with "subscriptTail Name Name ref int" => refine halt ?_)
  k_steps
  k_with_none
  (k_with "execs cons" => ((rename Fr _ _ _ _ => FZ); refine gtkF FZ gz dz oz rfl ?_; intro tkF))
  refine unhalt ?_
  rcases hx with rfl | rfl | rfl | rfl | rfl | rfl
  · k_steps
    rename Fr h₀ _ _ _ => F2
    rename News h₀ _ _ _ => N2
    exact hret2 _ _ _ _ _ (news_pick N2 (by k_mem) (fun p hp => by repeat (first | exact hp | apply List.Mem.tail))) (by assumption) (by exact .nil) (by assumption) F2
  · k_steps
    rename Fr h₀ _ _ _ => F2
    rename News h₀ _ _ _ => N2
    exact hret2 _ _ _ _ _ (news_pick N2 (by k_mem) (fun p hp => by repeat (first | exact hp | apply List.Mem.tail))) (by assumption) (by exact .cons (.cons (.nil))) (by assumption) F2
  · k_steps
    rename Fr h₀ _ _ _ => F2
    rename News h₀ _ _ _ => N2
    exact hret2 _ _ _ _ _ (news_pick N2 (by k_mem) (fun p hp => by repeat (first | exact hp | apply List.Mem.tail))) (by assumption) (by exact .cons (.cons (.cons (.cons (.cons (.cons (.nil))))))) (by assumption) F2
  · k_steps
    rename Fr h₀ _ _ _ => F2
    rename News h₀ _ _ _ => N2
    exact hret2 _ _ _ _ _ (news_pick N2 (by k_mem) (fun p hp => by repeat (first | exact hp | apply List.Mem.tail))) (by assumption) (by exact .cons (.cons (.nil))) (by assumption) F2
  · k_steps
    rename Fr h₀ _ _ _ => F2
    rename News h₀ _ _ _ => N2
    exact hret2 _ _ _ _ _ (news_pick N2 (by k_mem) (fun p hp => by repeat (first | exact hp | apply List.Mem.tail))) (by assumption) (by exact .cons (.cons (.cons (.nil)))) (by assumption) F2
  · k_steps
    rename Fr h₀ _ _ _ => F2
    rename News h₀ _ _ _ => N2
    exact hret2 _ _ _ _ _ (news_pick N2 (by k_mem) (fun p hp => by repeat (first | exact hp | apply List.Mem.tail))) (by assumption) (by exact .cons (.cons (.cons (.cons (.cons (.cons (.nil))))))) (by assumption) F2
theorem c_table {w : World} {p : Program} {loose : List Str} {mean : ExcName → Option Value} {mg mb : Str → Option Value} {news : List (Addr × Obj)} (i : Nat) (hi : i < 6) (th : Tok) :
  ∀ (cn : Str) (nm : List (Str × NameKind)) (mr : List (Str × Const)) (a : Addr) (ccd : Value) (cl : List (Str × Addr)) (outer : List Env) (A₀ : Around) (base h₀ : Heap) (L : Addr) (m : Str → Option Value) (s : Shared) (Q E : Value → Shared → Prop),
    Below A₀ base outer h₀ → Fr h₀ L s.heap m → (hd.heap_1 w.params).In h₀ → News h₀ L s.heap news → Top p loose mean mg mb h₀ →
    (∀ (D : Nat) (o : Obj) (kvs : List (Str × Value)) (h' : Heap) (tk' : Nat), o.IsDictOf (PySem.strKind PySem.Challenge.rw_wu0094_01.row.prog w) kvs → TabOf kvs (tbl i) → (D == sysModules) = false → Fr h₀ L h' m → News h₀ L h' ((D, o) :: news) → Q (.ref D) { s with heap := h', toks := tk' }) →
      wpAny (model PySem.Challenge.rw_wu0094_01.row.prog w) (ktrTop 600 3000 (some []) cn (fsc nm mr) L a ccd cl outer) (call (.ref 341) [.int i th]) Q E s := by
  exact c_tableX (i : Int) (by omega) th
end Mine
end
-- ES
section
open PySem PySem.W PyProof.Rows PySem.Spec PySem.Calls
set_option Elab.async false
set_option maxRecDepth 100000
set_option maxHeartbeats 4000000
namespace Mine
section
variable {prog : Program} {w : World} {A : Around} {E : Value → Shared → Prop} {s : Shared} {h₀ : Heap} {L : Addr} {m : Str → Option Value} {news : List (Addr × Obj)} {cn : Str} {cs : Scope} {a : Addr} {ccd : Value} {cl : List (Str × Addr)}
/-- «if LIT in text: text = text.replace(LIT, LIT2)» -/
theorem esc_step {lit lit2 : Str} (c : Nat) (z : List Nat) {x : List Nat} {t : Tok} {k1 k2 k3 : Nat} {p1 p2 p3 p4 p5 p6 p7 p8 p9 p10 p11 : Pos} {Q : Flow → Shared → Prop}
    (F : Fr h₀ L s.heap m) (N : News h₀ L s.heap news) (h0 : s.toks ≠ 0) (e : m "text" = some (.str (S x) t)) (hl : lit = S [c]) (hz : lit2 = S z) (hne : [c] ≠ z) (hx : x.length ≤ 1000000) (hzl : z.length ≤ 14)
    {pl : Sem Bool}
    (he : eval (.Call (.Attribute (.Name "text" p5) "replace" p6) [.Constant (.str lit) k2 p7, .Constant (.str lit2) k3 p8] [] p9) (envX cn cs L a ccd cl) = (do
      let ov ← eval (.Name "text" p5) (envX cn cs L a ccd cl)
      standAt p6.atName
      let (f, first) ← holding [ov] (getMethod ov "replace" pl)
      callWith p9 f first (backTo p9 (starEach [.Constant (.str lit) k2 p7, .Constant (.str lit2) k3 p8] (envX cn cs L a ccd cl))) []))
    (hk : cs.kind = .function) (hX : (envX cn cs L a ccd cl).kindOf "text" = some .local)
    (h : ∀ (h' : Heap) (tk : Nat) (t' : Tok) (m' : Str → Option Value), tk ≠ 0 → m' "text" = some (.str (S (rep c z x)) t') → Fr h₀ L h' m' → News h₀ L h' news → Q .next { s with heap := h', toks := tk }) :
    wpAny (model prog w) A (exec (.If (.Compare (.Constant (.str lit) k1 p1) [.In] [.Name "text" p2] p3) [.Assign [.Name "text" p4] (.Call (.Attribute (.Name "text" p5) "replace" p6) [.Constant (.str lit) k2 p7, .Constant (.str lit2) k3 p8] [] p9) p10] [] p11) (envX cn cs L a ccd cl)) Q E s := by
  obtain ⟨hp, g, d, tk, o⟩ := s
  subst hl hz
  refine If_join (x' := rep c z x) F N h0 ?_ h
  refine wpAny_If (wpAny_isTrue_Compare1 (Calls.Constant_str (nameX_L F e (in_str ?_) hk hX)))
  rw [in_S]
  refine wpAny_truthy_bool ?_
  by_cases hc : c ∈ x
  · rw [decide_eq_true hc, if_pos rfl]
    refine wpAny_execs_cons (wpAny_Assign_Name (MethodCall_ (nameX_L F e (GM.replace (callWith_method1 (spliced_more (Calls.Constant_str (spliced_more (Calls.Constant_str (spliced_none ?_)))))) ) hk hX) he))
    refine repl_txt c z rfl rfl (Nat.succ_ne_zero _) (Nat.succ_ne_zero _) (Nat.ne_of_lt (Nat.lt_succ_self _)) hne hx hzl fun t9 k9 => ?_
    refine storeX_L F N (fun h' F' N' => ?_) hk hX
    exact wpAny_pure (Joined.write F' N' rfl)
  · rw [decide_eq_false hc, if_neg (by decide)]
    exact wpAny_pure (Joined.keep hc F N e)
end
end Mine
end
-- E_cdata
section
open PySem PySem.W PyProof.Rows PySem.Spec PySem.Calls
set_option Elab.async false
set_option maxRecDepth 100000
set_option maxHeartbeats 16000000
namespace Mine
theorem c_cdata {w : World} {p : Program} {loose : List Str} {mean : ExcName → Option Value} {mg mb : Str → Option Value} {news : List (Addr × Obj)} (x : List Nat) (tx : Tok) (hx : x.length ≤ 7) :
  ∀ (cn : Str) (nm : List (Str × NameKind)) (mr : List (Str × Const)) (a : Addr) (ccd : Value) (cl : List (Str × Addr)) (outer : List Env) (A₀ : Around) (base h₀ : Heap) (L : Addr) (m : Str → Option Value) (s : Shared) (Q E : Value → Shared → Prop),
    Below A₀ base outer h₀ → Fr h₀ L s.heap m → (hd.heap_1 w.params).In h₀ → News h₀ L s.heap news → Top p loose mean mg mb h₀ →
    (∀ (t : Tok) (h' : Heap) (tk' : Nat), Fr h₀ L h' m → News h₀ L h' news → Q (.str (S (rep 62 [38, 103, 116, 59] (rep 60 [38, 108, 116, 59] (rep 38 [38, 97, 109, 112, 59] (x))))) t) { s with heap := h', toks := tk' }) →
      wpAny (model PySem.Challenge.rw_wu0094_01.row.prog w) (ktrTop 700 4000 (some []) cn (fsc nm mr) L a ccd cl outer) (call (.ref 292) [.str (S x) tx]) Q E s := by
  k_fill
  k_with_none
  intro cn nm mr a ccd cl outer A₀ base h₀ L m s Q E B F K N TT hret
  refine wpAny_call ?_
  k_dflt k_enter
  (k_with "execs cons" => (refine gtkS (by with_unfolding_all exact Nat.succ_ne_zero _) ?_; intro tk9 htk9))
  (k_with "exec If" => refine halt ?_)
  k_steps
  refine unhalt ?_
  k_with_none
  rename Fr _ _ _ _ => F0
  rename News _ _ _ _ => N0
  have hL0 : (x).length ≤ 7 := by omega
  refine esc_step 38 [38, 97, 109, 112, 59] F0 N0 (by assumption) rfl (by with_unfolding_all rfl) (by with_unfolding_all rfl) (by decide) (by omega) (by decide) rfl rfl rfl ?_
  intro h9 tk9 t9 m9 htk9 e9 F9 N9
  dsimp only at htk9 F9 N9 ⊢
  clear F0 N0
  replace F9 := fr_pin1 F9 e9
  (k_with "exec If" => refine halt ?_)
  k_steps
  refine unhalt ?_
  k_with_none
  rename Fr _ _ _ _ => F1
  rename News _ _ _ _ => N1
  have hL1 : (rep 38 [38, 97, 109, 112, 59] (x)).length ≤ 42 := by have := rep_len 38 [38, 97, 109, 112, 59] (x) (by decide); omega
  refine esc_step 60 [38, 108, 116, 59] F1 N1 (by assumption) rfl (by with_unfolding_all rfl) (by with_unfolding_all rfl) (by decide) (by omega) (by decide) rfl rfl rfl ?_
  intro h9 tk9 t9 m9 htk9 e9 F9 N9
  dsimp only at htk9 F9 N9 ⊢
  clear F1 N1
  replace F9 := fr_pin1 F9 e9
  (k_with "exec If" => refine halt ?_)
  k_steps
  refine unhalt ?_
  k_with_none
  rename Fr _ _ _ _ => F2
  rename News _ _ _ _ => N2
  have hL2 : (rep 60 [38, 108, 116, 59] (rep 38 [38, 97, 109, 112, 59] (x))).length ≤ 252 := by have := rep_len 60 [38, 108, 116, 59] (rep 38 [38, 97, 109, 112, 59] (x)) (by decide); omega
  refine esc_step 62 [38, 103, 116, 59] F2 N2 (by assumption) rfl (by with_unfolding_all rfl) (by with_unfolding_all rfl) (by decide) (by omega) (by decide) rfl rfl rfl ?_
  intro h9 tk9 t9 m9 htk9 e9 F9 N9
  dsimp only at htk9 F9 N9 ⊢
  clear F2 N2
  replace F9 := fr_pin1 F9 e9
  (k_with "exec If" => refine halt ?_)
  k_steps
  rename Fr h₀ _ _ _ => F2
  rename News h₀ _ _ _ => N2
  exact hret _ _ _ F2 N2
end Mine
end
-- E_attrib
section
open PySem PySem.W PyProof.Rows PySem.Spec PySem.Calls
set_option Elab.async false
set_option maxRecDepth 100000
set_option maxHeartbeats 16000000
namespace Mine
theorem c_attrib {w : World} {p : Program} {loose : List Str} {mean : ExcName → Option Value} {mg mb : Str → Option Value} {news : List (Addr × Obj)} (x : List Nat) (tx : Tok) (hx : x.length ≤ 7) :
  ∀ (cn : Str) (nm : List (Str × NameKind)) (mr : List (Str × Const)) (a : Addr) (ccd : Value) (cl : List (Str × Addr)) (outer : List Env) (A₀ : Around) (base h₀ : Heap) (L : Addr) (m : Str → Option Value) (s : Shared) (Q E : Value → Shared → Prop),
    Below A₀ base outer h₀ → Fr h₀ L s.heap m → (hd.heap_1 w.params).In h₀ → News h₀ L s.heap news → Top p loose mean mg mb h₀ →
    (∀ (t : Tok) (h' : Heap) (tk' : Nat), Fr h₀ L h' m → News h₀ L h' news → Q (.str (S (rep 9 [38, 35, 48, 57, 59] (rep 10 [38, 35, 49, 48, 59] (rep 13 [38, 35, 49, 51, 59] (rep 34 [38, 113, 117, 111, 116, 59] (rep 62 [38, 103, 116, 59] (rep 60 [38, 108, 116, 59] (rep 38 [38, 97, 109, 112, 59] (x))))))))) t) { s with heap := h', toks := tk' }) →
      wpAny (model PySem.Challenge.rw_wu0094_01.row.prog w) (ktrTop 700 4000 (some []) cn (fsc nm mr) L a ccd cl outer) (call (.ref 299) [.str (S x) tx]) Q E s := by
  k_fill
  k_with_none
  intro cn nm mr a ccd cl outer A₀ base h₀ L m s Q E B F K N TT hret
  refine wpAny_call ?_
  k_dflt k_enter
  (k_with "execs cons" => (refine gtkS (by with_unfolding_all exact Nat.succ_ne_zero _) ?_; intro tk9 htk9))
  (k_with "exec If" => refine halt ?_)
  k_steps
  refine unhalt ?_
  k_with_none
  rename Fr _ _ _ _ => F0
  rename News _ _ _ _ => N0
  have hL0 : (x).length ≤ 7 := by omega
  refine esc_step 38 [38, 97, 109, 112, 59] F0 N0 (by assumption) rfl (by with_unfolding_all rfl) (by with_unfolding_all rfl) (by decide) (by omega) (by decide) rfl rfl rfl ?_
  intro h9 tk9 t9 m9 htk9 e9 F9 N9
  dsimp only at htk9 F9 N9 ⊢
  clear F0 N0
  replace F9 := fr_pin1 F9 e9
  (k_with "exec If" => refine halt ?_)
  k_steps
  refine unhalt ?_
  k_with_none
  rename Fr _ _ _ _ => F1
  rename News _ _ _ _ => N1
  have hL1 : (rep 38 [38, 97, 109, 112, 59] (x)).length ≤ 42 := by have := rep_len 38 [38, 97, 109, 112, 59] (x) (by decide); omega
  refine esc_step 60 [38, 108, 116, 59] F1 N1 (by assumption) rfl (by with_unfolding_all rfl) (by with_unfolding_all rfl) (by decide) (by omega) (by decide) rfl rfl rfl ?_
  intro h9 tk9 t9 m9 htk9 e9 F9 N9
  dsimp only at htk9 F9 N9 ⊢
  clear F1 N1
  replace F9 := fr_pin1 F9 e9
  (k_with "exec If" => refine halt ?_)
  k_steps
  refine unhalt ?_
  k_with_none
  rename Fr _ _ _ _ => F2
  rename News _ _ _ _ => N2
  have hL2 : (rep 60 [38, 108, 116, 59] (rep 38 [38, 97, 109, 112, 59] (x))).length ≤ 252 := by have := rep_len 60 [38, 108, 116, 59] (rep 38 [38, 97, 109, 112, 59] (x)) (by decide); omega
  refine esc_step 62 [38, 103, 116, 59] F2 N2 (by assumption) rfl (by with_unfolding_all rfl) (by with_unfolding_all rfl) (by decide) (by omega) (by decide) rfl rfl rfl ?_
  intro h9 tk9 t9 m9 htk9 e9 F9 N9
  dsimp only at htk9 F9 N9 ⊢
  clear F2 N2
  replace F9 := fr_pin1 F9 e9
  (k_with "exec If" => refine halt ?_)
  k_steps
  refine unhalt ?_
  k_with_none
  rename Fr _ _ _ _ => F3
  rename News _ _ _ _ => N3
  have hL3 : (rep 62 [38, 103, 116, 59] (rep 60 [38, 108, 116, 59] (rep 38 [38, 97, 109, 112, 59] (x)))).length ≤ 1512 := by have := rep_len 62 [38, 103, 116, 59] (rep 60 [38, 108, 116, 59] (rep 38 [38, 97, 109, 112, 59] (x))) (by decide); omega
  refine esc_step 34 [38, 113, 117, 111, 116, 59] F3 N3 (by assumption) rfl (by with_unfolding_all rfl) (by with_unfolding_all rfl) (by decide) (by omega) (by decide) rfl rfl rfl ?_
  intro h9 tk9 t9 m9 htk9 e9 F9 N9
  dsimp only at htk9 F9 N9 ⊢
  clear F3 N3
  replace F9 := fr_pin1 F9 e9
  (k_with "exec If" => refine halt ?_)
  k_steps
  refine unhalt ?_
  k_with_none
  rename Fr _ _ _ _ => F4
  rename News _ _ _ _ => N4
  have hL4 : (rep 34 [38, 113, 117, 111, 116, 59] (rep 62 [38, 103, 116, 59] (rep 60 [38, 108, 116, 59] (rep 38 [38, 97, 109, 112, 59] (x))))).length ≤ 9072 := by have := rep_len 34 [38, 113, 117, 111, 116, 59] (rep 62 [38, 103, 116, 59] (rep 60 [38, 108, 116, 59] (rep 38 [38, 97, 109, 112, 59] (x)))) (by decide); omega
  refine esc_step 13 [38, 35, 49, 51, 59] F4 N4 (by assumption) rfl (by with_unfolding_all rfl) (by with_unfolding_all rfl) (by decide) (by omega) (by decide) rfl rfl rfl ?_
  intro h9 tk9 t9 m9 htk9 e9 F9 N9
  dsimp only at htk9 F9 N9 ⊢
  clear F4 N4
  replace F9 := fr_pin1 F9 e9
  (k_with "exec If" => refine halt ?_)
  k_steps
  refine unhalt ?_
  k_with_none
  rename Fr _ _ _ _ => F5
  rename News _ _ _ _ => N5
  have hL5 : (rep 13 [38, 35, 49, 51, 59] (rep 34 [38, 113, 117, 111, 116, 59] (rep 62 [38, 103, 116, 59] (rep 60 [38, 108, 116, 59] (rep 38 [38, 97, 109, 112, 59] (x)))))).length ≤ 54432 := by have := rep_len 13 [38, 35, 49, 51, 59] (rep 34 [38, 113, 117, 111, 116, 59] (rep 62 [38, 103, 116, 59] (rep 60 [38, 108, 116, 59] (rep 38 [38, 97, 109, 112, 59] (x))))) (by decide); omega
  refine esc_step 10 [38, 35, 49, 48, 59] F5 N5 (by assumption) rfl (by with_unfolding_all rfl) (by with_unfolding_all rfl) (by decide) (by omega) (by decide) rfl rfl rfl ?_
  intro h9 tk9 t9 m9 htk9 e9 F9 N9
  dsimp only at htk9 F9 N9 ⊢
  clear F5 N5
  replace F9 := fr_pin1 F9 e9
  (k_with "exec If" => refine halt ?_)
  k_steps
  refine unhalt ?_
  k_with_none
  rename Fr _ _ _ _ => F6
  rename News _ _ _ _ => N6
  have hL6 : (rep 10 [38, 35, 49, 48, 59] (rep 13 [38, 35, 49, 51, 59] (rep 34 [38, 113, 117, 111, 116, 59] (rep 62 [38, 103, 116, 59] (rep 60 [38, 108, 116, 59] (rep 38 [38, 97, 109, 112, 59] (x))))))).length ≤ 326592 := by have := rep_len 10 [38, 35, 49, 48, 59] (rep 13 [38, 35, 49, 51, 59] (rep 34 [38, 113, 117, 111, 116, 59] (rep 62 [38, 103, 116, 59] (rep 60 [38, 108, 116, 59] (rep 38 [38, 97, 109, 112, 59] (x)))))) (by decide); omega
  refine esc_step 9 [38, 35, 48, 57, 59] F6 N6 (by assumption) rfl (by with_unfolding_all rfl) (by with_unfolding_all rfl) (by decide) (by omega) (by decide) rfl rfl rfl ?_
  intro h9 tk9 t9 m9 htk9 e9 F9 N9
  dsimp only at htk9 F9 N9 ⊢
  clear F6 N6
  replace F9 := fr_pin1 F9 e9
  (k_with "exec If" => refine halt ?_)
  k_steps
  rename Fr h₀ _ _ _ => F2
  rename News h₀ _ _ _ => N2
  exact hret _ _ _ F2 N2
end Mine
end
-- E_html
section
open PySem PySem.W PyProof.Rows PySem.Spec PySem.Calls
set_option Elab.async false
set_option maxRecDepth 100000
set_option maxHeartbeats 16000000
namespace Mine
theorem c_html {w : World} {p : Program} {loose : List Str} {mean : ExcName → Option Value} {mg mb : Str → Option Value} {news : List (Addr × Obj)} (x : List Nat) (tx : Tok) (hx : x.length ≤ 7) :
  ∀ (cn : Str) (nm : List (Str × NameKind)) (mr : List (Str × Const)) (a : Addr) (ccd : Value) (cl : List (Str × Addr)) (outer : List Env) (A₀ : Around) (base h₀ : Heap) (L : Addr) (m : Str → Option Value) (s : Shared) (Q E : Value → Shared → Prop),
    Below A₀ base outer h₀ → Fr h₀ L s.heap m → (hd.heap_1 w.params).In h₀ → News h₀ L s.heap news → Top p loose mean mg mb h₀ →
    (∀ (t : Tok) (h' : Heap) (tk' : Nat), Fr h₀ L h' m → News h₀ L h' news → Q (.str (S (rep 34 [38, 113, 117, 111, 116, 59] (rep 62 [38, 103, 116, 59] (rep 38 [38, 97, 109, 112, 59] (x))))) t) { s with heap := h', toks := tk' }) →
      wpAny (model PySem.Challenge.rw_wu0094_01.row.prog w) (ktrTop 700 4000 (some []) cn (fsc nm mr) L a ccd cl outer) (call (.ref 306) [.str (S x) tx]) Q E s := by
  k_fill
  k_with_none
  intro cn nm mr a ccd cl outer A₀ base h₀ L m s Q E B F K N TT hret
  refine wpAny_call ?_
  k_dflt k_enter
  (k_with "execs cons" => (refine gtkS (by with_unfolding_all exact Nat.succ_ne_zero _) ?_; intro tk9 htk9))
  (k_with "exec If" => refine halt ?_)
  k_steps
  refine unhalt ?_
  k_with_none
  rename Fr _ _ _ _ => F0
  rename News _ _ _ _ => N0
  have hL0 : (x).length ≤ 7 := by omega
  refine esc_step 38 [38, 97, 109, 112, 59] F0 N0 (by assumption) rfl (by with_unfolding_all rfl) (by with_unfolding_all rfl) (by decide) (by omega) (by decide) rfl rfl rfl ?_
  intro h9 tk9 t9 m9 htk9 e9 F9 N9
  dsimp only at htk9 F9 N9 ⊢
  clear F0 N0
  replace F9 := fr_pin1 F9 e9
  (k_with "exec If" => refine halt ?_)
  k_steps
  refine unhalt ?_
  k_with_none
  rename Fr _ _ _ _ => F1
  rename News _ _ _ _ => N1
  have hL1 : (rep 38 [38, 97, 109, 112, 59] (x)).length ≤ 42 := by have := rep_len 38 [38, 97, 109, 112, 59] (x) (by decide); omega
  refine esc_step 62 [38, 103, 116, 59] F1 N1 (by assumption) rfl (by with_unfolding_all rfl) (by with_unfolding_all rfl) (by decide) (by omega) (by decide) rfl rfl rfl ?_
  intro h9 tk9 t9 m9 htk9 e9 F9 N9
  dsimp only at htk9 F9 N9 ⊢
  clear F1 N1
  replace F9 := fr_pin1 F9 e9
  (k_with "exec If" => refine halt ?_)
  k_steps
  refine unhalt ?_
  k_with_none
  rename Fr _ _ _ _ => F2
  rename News _ _ _ _ => N2
  have hL2 : (rep 62 [38, 103, 116, 59] (rep 38 [38, 97, 109, 112, 59] (x))).length ≤ 252 := by have := rep_len 62 [38, 103, 116, 59] (rep 38 [38, 97, 109, 112, 59] (x)) (by decide); omega
  refine esc_step 34 [38, 113, 117, 111, 116, 59] F2 N2 (by assumption) rfl (by with_unfolding_all rfl) (by with_unfolding_all rfl) (by decide) (by omega) (by decide) rfl rfl rfl ?_
  intro h9 tk9 t9 m9 htk9 e9 F9 N9
  dsimp only at htk9 F9 N9 ⊢
  clear F2 N2
  replace F9 := fr_pin1 F9 e9
  (k_with "exec If" => refine halt ?_)
  k_steps
  rename Fr h₀ _ _ _ => F2
  rename News h₀ _ _ _ => N2
  exact hret _ _ _ F2 N2
end Mine
end
-- E_cc14n
section
open PySem PySem.W PyProof.Rows PySem.Spec PySem.Calls
set_option Elab.async false
set_option maxRecDepth 100000
set_option maxHeartbeats 16000000
namespace Mine
theorem c_cc14n {w : World} {p : Program} {loose : List Str} {mean : ExcName → Option Value} {mg mb : Str → Option Value} {news : List (Addr × Obj)} (x : List Nat) (tx : Tok) (hx : x.length ≤ 7) :
  ∀ (cn : Str) (nm : List (Str × NameKind)) (mr : List (Str × Const)) (a : Addr) (ccd : Value) (cl : List (Str × Addr)) (outer : List Env) (A₀ : Around) (base h₀ : Heap) (L : Addr) (m : Str → Option Value) (s : Shared) (Q E : Value → Shared → Prop),
    Below A₀ base outer h₀ → Fr h₀ L s.heap m → (hd.heap_1 w.params).In h₀ → News h₀ L s.heap news → Top p loose mean mg mb h₀ →
    (∀ (t : Tok) (h' : Heap) (tk' : Nat), Fr h₀ L h' m → News h₀ L h' news → Q (.str (S (rep 13 [38, 35, 120, 68, 59] (rep 62 [38, 103, 116, 59] (rep 60 [38, 108, 116, 59] (rep 38 [38, 97, 109, 112, 59] (x)))))) t) { s with heap := h', toks := tk' }) →
      wpAny (model PySem.Challenge.rw_wu0094_01.row.prog w) (ktrTop 700 4000 (some []) cn (fsc nm mr) L a ccd cl outer) (call (.ref 313) [.str (S x) tx]) Q E s := by
  k_fill
  k_with_none
  intro cn nm mr a ccd cl outer A₀ base h₀ L m s Q E B F K N TT hret
  refine wpAny_call ?_
  k_dflt k_enter
  (k_with "execs cons" => (refine gtkS (by with_unfolding_all exact Nat.succ_ne_zero _) ?_; intro tk9 htk9))
  (k_with "exec If" => refine halt ?_)
  k_steps
  refine unhalt ?_
  k_with_none
  rename Fr _ _ _ _ => F0
  rename News _ _ _ _ => N0
  have hL0 : (x).length ≤ 7 := by omega
  refine esc_step 38 [38, 97, 109, 112, 59] F0 N0 (by assumption) rfl (by with_unfolding_all rfl) (by with_unfolding_all rfl) (by decide) (by omega) (by decide) rfl rfl rfl ?_
  intro h9 tk9 t9 m9 htk9 e9 F9 N9
  dsimp only at htk9 F9 N9 ⊢
  clear F0 N0
  replace F9 := fr_pin1 F9 e9
  (k_with "exec If" => refine halt ?_)
  k_steps
  refine unhalt ?_
  k_with_none
  rename Fr _ _ _ _ => F1
  rename News _ _ _ _ => N1
  have hL1 : (rep 38 [38, 97, 109, 112, 59] (x)).length ≤ 42 := by have := rep_len 38 [38, 97, 109, 112, 59] (x) (by decide); omega
  refine esc_step 60 [38, 108, 116, 59] F1 N1 (by assumption) rfl (by with_unfolding_all rfl) (by with_unfolding_all rfl) (by decide) (by omega) (by decide) rfl rfl rfl ?_
  intro h9 tk9 t9 m9 htk9 e9 F9 N9
  dsimp only at htk9 F9 N9 ⊢
  clear F1 N1
  replace F9 := fr_pin1 F9 e9
  (k_with "exec If" => refine halt ?_)
  k_steps
  refine unhalt ?_
  k_with_none
  rename Fr _ _ _ _ => F2
  rename News _ _ _ _ => N2
  have hL2 : (rep 60 [38, 108, 116, 59] (rep 38 [38, 97, 109, 112, 59] (x))).length ≤ 252 := by have := rep_len 60 [38, 108, 116, 59] (rep 38 [38, 97, 109, 112, 59] (x)) (by decide); omega
  refine esc_step 62 [38, 103, 116, 59] F2 N2 (by assumption) rfl (by with_unfolding_all rfl) (by with_unfolding_all rfl) (by decide) (by omega) (by decide) rfl rfl rfl ?_
  intro h9 tk9 t9 m9 htk9 e9 F9 N9
  dsimp only at htk9 F9 N9 ⊢
  clear F2 N2
  replace F9 := fr_pin1 F9 e9
  (k_with "exec If" => refine halt ?_)
  k_steps
  refine unhalt ?_
  k_with_none
  rename Fr _ _ _ _ => F3
  rename News _ _ _ _ => N3
  have hL3 : (rep 62 [38, 103, 116, 59] (rep 60 [38, 108, 116, 59] (rep 38 [38, 97, 109, 112, 59] (x)))).length ≤ 1512 := by have := rep_len 62 [38, 103, 116, 59] (rep 60 [38, 108, 116, 59] (rep 38 [38, 97, 109, 112, 59] (x))) (by decide); omega
  refine esc_step 13 [38, 35, 120, 68, 59] F3 N3 (by assumption) rfl (by with_unfolding_all rfl) (by with_unfolding_all rfl) (by decide) (by omega) (by decide) rfl rfl rfl ?_
  intro h9 tk9 t9 m9 htk9 e9 F9 N9
  dsimp only at htk9 F9 N9 ⊢
  clear F3 N3
  replace F9 := fr_pin1 F9 e9
  (k_with "exec If" => refine halt ?_)
  k_steps
  rename Fr h₀ _ _ _ => F2
  rename News h₀ _ _ _ => N2
  exact hret _ _ _ F2 N2
end Mine
end
-- E_ac14n
section
open PySem PySem.W PyProof.Rows PySem.Spec PySem.Calls
set_option Elab.async false
set_option maxRecDepth 100000
set_option maxHeartbeats 16000000
namespace Mine
theorem c_ac14n {w : World} {p : Program} {loose : List Str} {mean : ExcName → Option Value} {mg mb : Str → Option Value} {news : List (Addr × Obj)} (x : List Nat) (tx : Tok) (hx : x.length ≤ 7) :
  ∀ (cn : Str) (nm : List (Str × NameKind)) (mr : List (Str × Const)) (a : Addr) (ccd : Value) (cl : List (Str × Addr)) (outer : List Env) (A₀ : Around) (base h₀ : Heap) (L : Addr) (m : Str → Option Value) (s : Shared) (Q E : Value → Shared → Prop),
    Below A₀ base outer h₀ → Fr h₀ L s.heap m → (hd.heap_1 w.params).In h₀ → News h₀ L s.heap news → Top p loose mean mg mb h₀ →
    (∀ (t : Tok) (h' : Heap) (tk' : Nat), Fr h₀ L h' m → News h₀ L h' news → Q (.str (S (rep 13 [38, 35, 120, 68, 59] (rep 10 [38, 35, 120, 65, 59] (rep 9 [38, 35, 120, 57, 59] (rep 34 [38, 113, 117, 111, 116, 59] (rep 60 [38, 108, 116, 59] (rep 38 [38, 97, 109, 112, 59] (x)))))))) t) { s with heap := h', toks := tk' }) →
      wpAny (model PySem.Challenge.rw_wu0094_01.row.prog w) (ktrTop 700 4000 (some []) cn (fsc nm mr) L a ccd cl outer) (call (.ref 320) [.str (S x) tx]) Q E s := by
  k_fill
  k_with_none
  intro cn nm mr a ccd cl outer A₀ base h₀ L m s Q E B F K N TT hret
  refine wpAny_call ?_
  k_dflt k_enter
  (k_with "execs cons" => (refine gtkS (by with_unfolding_all exact Nat.succ_ne_zero _) ?_; intro tk9 htk9))
  (k_with "exec If" => refine halt ?_)
  k_steps
  refine unhalt ?_
  k_with_none
  rename Fr _ _ _ _ => F0
  rename News _ _ _ _ => N0
  have hL0 : (x).length ≤ 7 := by omega
  refine esc_step 38 [38, 97, 109, 112, 59] F0 N0 (by assumption) rfl (by with_unfolding_all rfl) (by with_unfolding_all rfl) (by decide) (by omega) (by decide) rfl rfl rfl ?_
  intro h9 tk9 t9 m9 htk9 e9 F9 N9
  dsimp only at htk9 F9 N9 ⊢
  clear F0 N0
  replace F9 := fr_pin1 F9 e9
  (k_with "exec If" => refine halt ?_)
  k_steps
  refine unhalt ?_
  k_with_none
  rename Fr _ _ _ _ => F1
  rename News _ _ _ _ => N1
  have hL1 : (rep 38 [38, 97, 109, 112, 59] (x)).length ≤ 42 := by have := rep_len 38 [38, 97, 109, 112, 59] (x) (by decide); omega
  refine esc_step 60 [38, 108, 116, 59] F1 N1 (by assumption) rfl (by with_unfolding_all rfl) (by with_unfolding_all rfl) (by decide) (by omega) (by decide) rfl rfl rfl ?_
  intro h9 tk9 t9 m9 htk9 e9 F9 N9
  dsimp only at htk9 F9 N9 ⊢
  clear F1 N1
  replace F9 := fr_pin1 F9 e9
  (k_with "exec If" => refine halt ?_)
  k_steps
  refine unhalt ?_
  k_with_none
  rename Fr _ _ _ _ => F2
  rename News _ _ _ _ => N2
  have hL2 : (rep 60 [38, 108, 116, 59] (rep 38 [38, 97, 109, 112, 59] (x))).length ≤ 252 := by have := rep_len 60 [38, 108, 116, 59] (rep 38 [38, 97, 109, 112, 59] (x)) (by decide); omega
  refine esc_step 34 [38, 113, 117, 111, 116, 59] F2 N2 (by assumption) rfl (by with_unfolding_all rfl) (by with_unfolding_all rfl) (by decide) (by omega) (by decide) rfl rfl rfl ?_
  intro h9 tk9 t9 m9 htk9 e9 F9 N9
  dsimp only at htk9 F9 N9 ⊢
  clear F2 N2
  replace F9 := fr_pin1 F9 e9
  (k_with "exec If" => refine halt ?_)
  k_steps
  refine unhalt ?_
  k_with_none
  rename Fr _ _ _ _ => F3
  rename News _ _ _ _ => N3
  have hL3 : (rep 34 [38, 113, 117, 111, 116, 59] (rep 60 [38, 108, 116, 59] (rep 38 [38, 97, 109, 112, 59] (x)))).length ≤ 1512 := by have := rep_len 34 [38, 113, 117, 111, 116, 59] (rep 60 [38, 108, 116, 59] (rep 38 [38, 97, 109, 112, 59] (x))) (by decide); omega
  refine esc_step 9 [38, 35, 120, 57, 59] F3 N3 (by assumption) rfl (by with_unfolding_all rfl) (by with_unfolding_all rfl) (by decide) (by omega) (by decide) rfl rfl rfl ?_
  intro h9 tk9 t9 m9 htk9 e9 F9 N9
  dsimp only at htk9 F9 N9 ⊢
  clear F3 N3
  replace F9 := fr_pin1 F9 e9
  (k_with "exec If" => refine halt ?_)
  k_steps
  refine unhalt ?_
  k_with_none
  rename Fr _ _ _ _ => F4
  rename News _ _ _ _ => N4
  have hL4 : (rep 9 [38, 35, 120, 57, 59] (rep 34 [38, 113, 117, 111, 116, 59] (rep 60 [38, 108, 116, 59] (rep 38 [38, 97, 109, 112, 59] (x))))).length ≤ 9072 := by have := rep_len 9 [38, 35, 120, 57, 59] (rep 34 [38, 113, 117, 111, 116, 59] (rep 60 [38, 108, 116, 59] (rep 38 [38, 97, 109, 112, 59] (x)))) (by decide); omega
  refine esc_step 10 [38, 35, 120, 65, 59] F4 N4 (by assumption) rfl (by with_unfolding_all rfl) (by with_unfolding_all rfl) (by decide) (by omega) (by decide) rfl rfl rfl ?_
  intro h9 tk9 t9 m9 htk9 e9 F9 N9
  dsimp only at htk9 F9 N9 ⊢
  clear F4 N4
  replace F9 := fr_pin1 F9 e9
  (k_with "exec If" => refine halt ?_)
  k_steps
  refine unhalt ?_
  k_with_none
  rename Fr _ _ _ _ => F5
  rename News _ _ _ _ => N5
  have hL5 : (rep 10 [38, 35, 120, 65, 59] (rep 9 [38, 35, 120, 57, 59] (rep 34 [38, 113, 117, 111, 116, 59] (rep 60 [38, 108, 116, 59] (rep 38 [38, 97, 109, 112, 59] (x)))))).length ≤ 54432 := by have := rep_len 10 [38, 35, 120, 65, 59] (rep 9 [38, 35, 120, 57, 59] (rep 34 [38, 113, 117, 111, 116, 59] (rep 60 [38, 108, 116, 59] (rep 38 [38, 97, 109, 112, 59] (x))))) (by decide); omega
  refine esc_step 13 [38, 35, 120, 68, 59] F5 N5 (by assumption) rfl (by with_unfolding_all rfl) (by with_unfolding_all rfl) (by decide) (by omega) (by decide) rfl rfl rfl ?_
  intro h9 tk9 t9 m9 htk9 e9 F9 N9
  dsimp only at htk9 F9 N9 ⊢
  clear F5 N5
  replace F9 := fr_pin1 F9 e9
  (k_with "exec If" => refine halt ?_)
  k_steps
  rename Fr h₀ _ _ _ => F2
  rename News h₀ _ _ _ => N2
  exact hret _ _ _ F2 N2
end Mine
end
-- E_hand
section
open PySem PySem.W PyProof.Rows PySem.Spec PySem.Calls
set_option Elab.async false
set_option maxRecDepth 100000
set_option maxHeartbeats 16000000
namespace Mine
noncomputable def esc : Nat → List Nat → List Nat
  | 0, x => x
  | 1, x => rep 62 [38, 103, 116, 59] (rep 60 [38, 108, 116, 59] (rep 38 [38, 97, 109, 112, 59] (x)))
  | 2, x => rep 9 [38, 35, 48, 57, 59] (rep 10 [38, 35, 49, 48, 59] (rep 13 [38, 35, 49, 51, 59] (rep 34 [38, 113, 117, 111, 116, 59] (rep 62 [38, 103, 116, 59] (rep 60 [38, 108, 116, 59] (rep 38 [38, 97, 109, 112, 59] (x)))))))
  | 3, x => rep 34 [38, 113, 117, 111, 116, 59] (rep 62 [38, 103, 116, 59] (rep 38 [38, 97, 109, 112, 59] (x)))
  | 4, x => rep 13 [38, 35, 120, 68, 59] (rep 62 [38, 103, 116, 59] (rep 60 [38, 108, 116, 59] (rep 38 [38, 97, 109, 112, 59] (x))))
  | _, x => rep 13 [38, 35, 120, 68, 59] (rep 10 [38, 35, 120, 65, 59] (rep 9 [38, 35, 120, 57, 59] (rep 34 [38, 113, 117, 111, 116, 59] (rep 60 [38, 108, 116, 59] (rep 38 [38, 97, 109, 112, 59] (x))))))
theorem c_hand0 {w : World} {p : Program} {loose : List Str} {mean : ExcName → Option Value} {mg mb : Str → Option Value} {news : List (Addr × Obj)} (x : List Nat) (tx th : Tok) (hx : x.length ≤ 7) :
  ∀ (cn : Str) (nm : List (Str × NameKind)) (mr : List (Str × Const)) (a : Addr) (ccd : Value) (cl : List (Str × Addr)) (outer : List Env) (A₀ : Around) (base h₀ : Heap) (L : Addr) (m : Str → Option Value) (s : Shared) (Q E : Value → Shared → Prop),
    Below A₀ base outer h₀ → Fr h₀ L s.heap m → (hd.heap_1 w.params).In h₀ → News h₀ L s.heap news → Top p loose mean mg mb h₀ →
    (∀ (t : Tok) (h' : Heap) (tk' : Nat), Fr h₀ L h' m → News h₀ L h' news → Q (.str (S (esc 0 x)) t) { s with heap := h', toks := tk' }) →
      wpAny (model PySem.Challenge.rw_wu0094_01.row.prog w) (ktrTop 600 3000 (some []) cn (fsc nm mr) L a ccd cl outer) (call (.ref 334) [.int 0 th, .str (S x) tx]) Q E s := by
  k_fill
  k_with_none
  intro cn nm mr a ccd cl outer A₀ base h₀ L m s Q E B F K N TT hret
  refine wpAny_call ?_
  k_dflt k_enter
  (k_with "call ref" => refine halt ?_)
  k_steps
  rename Fr h₀ _ _ _ => F2
  rename News h₀ _ _ _ => N2
  exact hret _ _ _ F2 N2
theorem c_hand1 {w : World} {p : Program} {loose : List Str} {mean : ExcName → Option Value} {mg mb : Str → Option Value} {news : List (Addr × Obj)} (x : List Nat) (tx th : Tok) (hx : x.length ≤ 7) :
  ∀ (cn : Str) (nm : List (Str × NameKind)) (mr : List (Str × Const)) (a : Addr) (ccd : Value) (cl : List (Str × Addr)) (outer : List Env) (A₀ : Around) (base h₀ : Heap) (L : Addr) (m : Str → Option Value) (s : Shared) (Q E : Value → Shared → Prop),
    Below A₀ base outer h₀ → Fr h₀ L s.heap m → (hd.heap_1 w.params).In h₀ → News h₀ L s.heap news → Top p loose mean mg mb h₀ →
    (∀ (t : Tok) (h' : Heap) (tk' : Nat), Fr h₀ L h' m → News h₀ L h' news → Q (.str (S (esc 1 x)) t) { s with heap := h', toks := tk' }) →
      wpAny (model PySem.Challenge.rw_wu0094_01.row.prog w) (ktrTop 600 3000 (some []) cn (fsc nm mr) L a ccd cl outer) (call (.ref 334) [.int 1 th, .str (S x) tx]) Q E s := by
  k_fill
  k_with_none
  intro cn nm mr a ccd cl outer A₀ base h₀ L m s Q E B F K N TT hret
  refine wpAny_call ?_
  k_dflt k_enter
  (k_with "call ref" => refine halt ?_)
  k_steps
  refine unhalt ?_
  k_with_none
  rename Fr _ _ _ _ => F5
  rename News _ _ _ _ => N5
  rename Below _ _ _ _ => B1
  rename Frag.In _ _ => K1
  rename Top _ _ _ _ _ _ => T1
  (try dsimp only [List.nil_append, List.cons_append, List.append_nil])
  refine wpAny_weaken (B := ktrTop 700 4000 (some []) _ (fsc _ _) _ _ _ _ _) rfl (Nat.le_of_ble_eq_true rfl) rfl rfl (Nat.le_of_ble_eq_true rfl) (c_cdata x tx hx _ _ _ _ _ _ _ _ _ _ _ _ _ _ _ B1 F5 K1 N5 T1 ?_)
  intro t9 h9 tk9 F9 N9
  clear F5 N5
  dsimp only
  k_steps
  rename Fr h₀ _ _ _ => F2
  rename News h₀ _ _ _ => N2
  exact hret _ _ _ F2 N2
theorem c_hand2 {w : World} {p : Program} {loose : List Str} {mean : ExcName → Option Value} {mg mb : Str → Option Value} {news : List (Addr × Obj)} (x : List Nat) (tx th : Tok) (hx : x.length ≤ 7) :
  ∀ (cn : Str) (nm : List (Str × NameKind)) (mr : List (Str × Const)) (a : Addr) (ccd : Value) (cl : List (Str × Addr)) (outer : List Env) (A₀ : Around) (base h₀ : Heap) (L : Addr) (m : Str → Option Value) (s : Shared) (Q E : Value → Shared → Prop),
    Below A₀ base outer h₀ → Fr h₀ L s.heap m → (hd.heap_1 w.params).In h₀ → News h₀ L s.heap news → Top p loose mean mg mb h₀ →
    (∀ (t : Tok) (h' : Heap) (tk' : Nat), Fr h₀ L h' m → News h₀ L h' news → Q (.str (S (esc 2 x)) t) { s with heap := h', toks := tk' }) →
      wpAny (model PySem.Challenge.rw_wu0094_01.row.prog w) (ktrTop 600 3000 (some []) cn (fsc nm mr) L a ccd cl outer) (call (.ref 334) [.int 2 th, .str (S x) tx]) Q E s := by
  k_fill
  k_with_none
  intro cn nm mr a ccd cl outer A₀ base h₀ L m s Q E B F K N TT hret
  refine wpAny_call ?_
  k_dflt k_enter
  (k_with "call ref" => refine halt ?_)
  k_steps
  refine unhalt ?_
  k_with_none
  rename Fr _ _ _ _ => F5
  rename News _ _ _ _ => N5
  rename Below _ _ _ _ => B1
  rename Frag.In _ _ => K1
  rename Top _ _ _ _ _ _ => T1
  (try dsimp only [List.nil_append, List.cons_append, List.append_nil])
  refine wpAny_weaken (B := ktrTop 700 4000 (some []) _ (fsc _ _) _ _ _ _ _) rfl (Nat.le_of_ble_eq_true rfl) rfl rfl (Nat.le_of_ble_eq_true rfl) (c_attrib x tx hx _ _ _ _ _ _ _ _ _ _ _ _ _ _ _ B1 F5 K1 N5 T1 ?_)
  intro t9 h9 tk9 F9 N9
  clear F5 N5
  dsimp only
  k_steps
  rename Fr h₀ _ _ _ => F2
  rename News h₀ _ _ _ => N2
  exact hret _ _ _ F2 N2
theorem c_hand3 {w : World} {p : Program} {loose : List Str} {mean : ExcName → Option Value} {mg mb : Str → Option Value} {news : List (Addr × Obj)} (x : List Nat) (tx th : Tok) (hx : x.length ≤ 7) :
  ∀ (cn : Str) (nm : List (Str × NameKind)) (mr : List (Str × Const)) (a : Addr) (ccd : Value) (cl : List (Str × Addr)) (outer : List Env) (A₀ : Around) (base h₀ : Heap) (L : Addr) (m : Str → Option Value) (s : Shared) (Q E : Value → Shared → Prop),
    Below A₀ base outer h₀ → Fr h₀ L s.heap m → (hd.heap_1 w.params).In h₀ → News h₀ L s.heap news → Top p loose mean mg mb h₀ →
    (∀ (t : Tok) (h' : Heap) (tk' : Nat), Fr h₀ L h' m → News h₀ L h' news → Q (.str (S (esc 3 x)) t) { s with heap := h', toks := tk' }) →
      wpAny (model PySem.Challenge.rw_wu0094_01.row.prog w) (ktrTop 600 3000 (some []) cn (fsc nm mr) L a ccd cl outer) (call (.ref 334) [.int 3 th, .str (S x) tx]) Q E s := by
  k_fill
  k_with_none
  intro cn nm mr a ccd cl outer A₀ base h₀ L m s Q E B F K N TT hret
  refine wpAny_call ?_
  k_dflt k_enter
  (k_with "call ref" => refine halt ?_)
  k_steps
  refine unhalt ?_
  k_with_none
  rename Fr _ _ _ _ => F5
  rename News _ _ _ _ => N5
  rename Below _ _ _ _ => B1
  rename Frag.In _ _ => K1
  rename Top _ _ _ _ _ _ => T1
  (try dsimp only [List.nil_append, List.cons_append, List.append_nil])
  refine wpAny_weaken (B := ktrTop 700 4000 (some []) _ (fsc _ _) _ _ _ _ _) rfl (Nat.le_of_ble_eq_true rfl) rfl rfl (Nat.le_of_ble_eq_true rfl) (c_html x tx hx _ _ _ _ _ _ _ _ _ _ _ _ _ _ _ B1 F5 K1 N5 T1 ?_)
  intro t9 h9 tk9 F9 N9
  clear F5 N5
  dsimp only
  k_steps
  rename Fr h₀ _ _ _ => F2
  rename News h₀ _ _ _ => N2
  exact hret _ _ _ F2 N2
theorem c_hand4 {w : World} {p : Program} {loose : List Str} {mean : ExcName → Option Value} {mg mb : Str → Option Value} {news : List (Addr × Obj)} (x : List Nat) (tx th : Tok) (hx : x.length ≤ 7) :
  ∀ (cn : Str) (nm : List (Str × NameKind)) (mr : List (Str × Const)) (a : Addr) (ccd : Value) (cl : List (Str × Addr)) (outer : List Env) (A₀ : Around) (base h₀ : Heap) (L : Addr) (m : Str → Option Value) (s : Shared) (Q E : Value → Shared → Prop),
    Below A₀ base outer h₀ → Fr h₀ L s.heap m → (hd.heap_1 w.params).In h₀ → News h₀ L s.heap news → Top p loose mean mg mb h₀ →
    (∀ (t : Tok) (h' : Heap) (tk' : Nat), Fr h₀ L h' m → News h₀ L h' news → Q (.str (S (esc 4 x)) t) { s with heap := h', toks := tk' }) →
      wpAny (model PySem.Challenge.rw_wu0094_01.row.prog w) (ktrTop 600 3000 (some []) cn (fsc nm mr) L a ccd cl outer) (call (.ref 334) [.int 4 th, .str (S x) tx]) Q E s := by
  k_fill
  k_with_none
  intro cn nm mr a ccd cl outer A₀ base h₀ L m s Q E B F K N TT hret
  refine wpAny_call ?_
  k_dflt k_enter
  (k_with "call ref" => refine halt ?_)
  k_steps
  refine unhalt ?_
  k_with_none
  rename Fr _ _ _ _ => F5
  rename News _ _ _ _ => N5
  rename Below _ _ _ _ => B1
  rename Frag.In _ _ => K1
  rename Top _ _ _ _ _ _ => T1
  (try dsimp only [List.nil_append, List.cons_append, List.append_nil])
  refine wpAny_weaken (B := ktrTop 700 4000 (some []) _ (fsc _ _) _ _ _ _ _) rfl (Nat.le_of_ble_eq_true rfl) rfl rfl (Nat.le_of_ble_eq_true rfl) (c_cc14n x tx hx _ _ _ _ _ _ _ _ _ _ _ _ _ _ _ B1 F5 K1 N5 T1 ?_)
  intro t9 h9 tk9 F9 N9
  clear F5 N5
  dsimp only
  k_steps
  rename Fr h₀ _ _ _ => F2
  rename News h₀ _ _ _ => N2
  exact hret _ _ _ F2 N2
theorem c_hand5 {w : World} {p : Program} {loose : List Str} {mean : ExcName → Option Value} {mg mb : Str → Option Value} {news : List (Addr × Obj)} (x : List Nat) (tx th : Tok) (hx : x.length ≤ 7) :
  ∀ (cn : Str) (nm : List (Str × NameKind)) (mr : List (Str × Const)) (a : Addr) (ccd : Value) (cl : List (Str × Addr)) (outer : List Env) (A₀ : Around) (base h₀ : Heap) (L : Addr) (m : Str → Option Value) (s : Shared) (Q E : Value → Shared → Prop),
    Below A₀ base outer h₀ → Fr h₀ L s.heap m → (hd.heap_1 w.params).In h₀ → News h₀ L s.heap news → Top p loose mean mg mb h₀ →
    (∀ (t : Tok) (h' : Heap) (tk' : Nat), Fr h₀ L h' m → News h₀ L h' news → Q (.str (S (esc 5 x)) t) { s with heap := h', toks := tk' }) →
      wpAny (model PySem.Challenge.rw_wu0094_01.row.prog w) (ktrTop 600 3000 (some []) cn (fsc nm mr) L a ccd cl outer) (call (.ref 334) [.int 5 th, .str (S x) tx]) Q E s := by
  k_fill
  k_with_none
  intro cn nm mr a ccd cl outer A₀ base h₀ L m s Q E B F K N TT hret
  refine wpAny_call ?_
  k_dflt k_enter
  (k_with "call ref" => refine halt ?_)
  k_steps
  refine unhalt ?_
  k_with_none
  rename Fr _ _ _ _ => F5
  rename News _ _ _ _ => N5
  rename Below _ _ _ _ => B1
  rename Frag.In _ _ => K1
  rename Top _ _ _ _ _ _ => T1
  (try dsimp only [List.nil_append, List.cons_append, List.append_nil])
  refine wpAny_weaken (B := ktrTop 700 4000 (some []) _ (fsc _ _) _ _ _ _ _) rfl (Nat.le_of_ble_eq_true rfl) rfl rfl (Nat.le_of_ble_eq_true rfl) (c_ac14n x tx hx _ _ _ _ _ _ _ _ _ _ _ _ _ _ _ B1 F5 K1 N5 T1 ?_)
  intro t9 h9 tk9 F9 N9
  clear F5 N5
  dsimp only
  k_steps
  rename Fr h₀ _ _ _ => F2
  rename News h₀ _ _ _ => N2
  exact hret _ _ _ F2 N2
theorem c_hand {w : World} {p : Program} {loose : List Str} {mean : ExcName → Option Value} {mg mb : Str → Option Value} {news : List (Addr × Obj)} (i : Nat) (hi : i < 6) (x : List Nat) (tx th : Tok) (hx : x.length ≤ 7) :
  ∀ (cn : Str) (nm : List (Str × NameKind)) (mr : List (Str × Const)) (a : Addr) (ccd : Value) (cl : List (Str × Addr)) (outer : List Env) (A₀ : Around) (base h₀ : Heap) (L : Addr) (m : Str → Option Value) (s : Shared) (Q E : Value → Shared → Prop),
    Below A₀ base outer h₀ → Fr h₀ L s.heap m → (hd.heap_1 w.params).In h₀ → News h₀ L s.heap news → Top p loose mean mg mb h₀ →
    (∀ (t : Tok) (h' : Heap) (tk' : Nat), Fr h₀ L h' m → News h₀ L h' news → Q (.str (S (esc i x)) t) { s with heap := h', toks := tk' }) →
      wpAny (model PySem.Challenge.rw_wu0094_01.row.prog w) (ktrTop 600 3000 (some []) cn (fsc nm mr) L a ccd cl outer) (call (.ref 334) [.int (i : Nat) th, .str (S x) tx]) Q E s := by
  rcases i with _ | _ | _ | _ | _ | _ | i
  · exact c_hand0 x tx th hx
  · exact c_hand1 x tx th hx
  · exact c_hand2 x tx th hx
  · exact c_hand3 x tx th hx
  · exact c_hand4 x tx th hx
  · exact c_hand5 x tx th hx
  · exact absurd hi (by omega)
end Mine
end
-- E_drawn
section
open PySem PySem.W PyProof.Rows PySem.Spec PySem.Calls
set_option Elab.async false
set_option maxRecDepth 100000
set_option maxHeartbeats 16000000
namespace Mine
theorem signs_get : ∀ j : Nat, j < 9 → ∃ c, c ∈ ([97, 32, 34, 9, 10, 13, 92, 38, 60] : List Nat) ∧ ([Str.ofString "a", Str.ofString " ", Str.ofString "\"", Str.ofString "\t", Str.ofString "\n", Str.ofString "\r", Str.ofString "\\", Str.ofString "&", Str.ofString "<"] : List Str).getD j Str.empty = S [c]
  | 0, _ => ⟨97, by decide, rfl⟩
  | 1, _ => ⟨32, by decide, rfl⟩
  | 2, _ => ⟨34, by decide, rfl⟩
  | 3, _ => ⟨9, by decide, rfl⟩
  | 4, _ => ⟨10, by decide, rfl⟩
  | 5, _ => ⟨13, by decide, rfl⟩
  | 6, _ => ⟨92, by decide, rfl⟩
  | 7, _ => ⟨38, by decide, rfl⟩
  | 8, _ => ⟨60, by decide, rfl⟩
  | _ + 9, h => absurd h (by omega)
theorem c_drawn {w : World} {p : Program} {loose : List Str} {mean : ExcName → Option Value} {mg mb : Str → Option Value} {news : List (Addr × Obj)} (x : Int) (tx : Tok) :
  ∀ (cn : Str) (nm : List (Str × NameKind)) (mr : List (Str × Const)) (a : Addr) (ccd : Value) (cl : List (Str × Addr)) (outer : List Env) (A₀ : Around) (base h₀ : Heap) (L : Addr) (m : Str → Option Value) (s : Shared) (Q E : Value → Shared → Prop),
    Below A₀ base outer h₀ → Fr h₀ L s.heap m → (hd.heap_1 w.params).In h₀ → News h₀ L s.heap news → Top p loose mean mg mb h₀ →
    (∀ (tp hand : Nat) (th tt : Tok) (T : List Nat) (h' : Heap) (tk' : Nat), hand < 6 → T.length ≤ 7 → (∀ c ∈ T, c ∈ ([97, 32, 34, 9, 10, 13, 92, 38, 60] : List Nat)) → Fr h₀ L h' m → News h₀ L h' ((tp, { cls := .type "tuple", data := .seq #[.int hand th, .str (S T) tt] }) :: news) → (∀ p ∈ news, p.1 < tp) → Q (.ref tp) { s with heap := h', toks := tk' }) →
      wpAny (model PySem.Challenge.rw_wu0094_01.row.prog w) (ktrTop 600 3000 (some []) cn (fsc nm mr) L a ccd cl outer) (call (.ref 327) [.int x tx]) Q E s := by
  k_fill
  k_with_none
  intro cn nm mr a ccd cl outer A₀ base h₀ L m s Q E B F K N TT hret
  obtain ⟨hpz, gz, dz, tz, oz⟩ := s
  dsimp only at F N hret
  (k_with "execs cons" => ((rename Fr _ _ _ _ => FZ); refine gtkF FZ gz dz oz rfl ?_; intro tkF))
  refine wpAny_call ?_
  k_dflt k_enter
  (k_with "exec For Name Call cons nil" => refine halt ?_)
  k_steps
  k_with_none
  (k_with "execs cons" => ((rename Fr _ _ _ _ => FZ); refine gtkF FZ gz dz oz rfl ?_; intro tkF))
  refine unhalt ?_
  rename Fr _ _ _ _ => F1
  refine For_w F1 ?_
  (k_with "pyIter ref" => refine halt ?_)
  k_steps
  k_with_none
  (k_with "execs cons" => ((rename Fr _ _ _ _ => FZ); refine gtkF FZ gz dz oz rfl ?_; intro tkF))
  refine unhalt ?_
  rename IsRange _ _ _ _ _ _ _ _ => hRg
  rename Heap => hR5
  rename Fr _ _ hR5 _ => F5
  rename News _ _ hR5 _ => N5
  revert hRg
  generalize hg8 : Int.fmod (Int.fdiv _ 6) 8 = z8
  intro hRg
  have h8a : 0 ≤ z8 := by rw [← hg8]; exact Int.fmod_nonneg_of_pos _ (by decide)
  have h8b : z8 < 8 := by rw [← hg8]; exact Int.fmod_lt_of_pos _ (by decide)
  obtain ⟨sz, rfl⟩ : ∃ sz : Nat, z8 = sz := ⟨z8.toNat, (Int.toNat_of_nonneg h8a).symm⟩
  refine pyIter_to hRg (by omega) ?_
  have N6 := News.push F5 N5 (rgo 0 (sz : Int) 1) rfl
  have F6 := Fr.push F5 (rgo 0 (sz : Int) 1)
  have hIlt := news_lt N5
  dsimp only at F6 N6 hIlt ⊢
  rename_i ls q1 la q2 qf3 q3 q4 q5 qf2 tp q8 lb q9 q10 q11 qf1 q12 qf0 q13 q14 _ _ _ _ _ _
  obtain ⟨po, t0, t1, t2, t3, t4, t5, t6, t7, t8, c0, N6⟩ : ∃ (po : Obj) (t0 t1 t2 t3 t4 t5 t6 t7 t8 : Tok) (c0 : Nat), News _ _ _ ((hR5.objs.size, rgo 0 (sz : Int) 1) :: (tp, po) :: (ls, listOf #[Value.str (Str.ofString "a") t0, Value.str (Str.ofString " ") t1, Value.str (Str.ofString "\"") t2, Value.str (Str.ofString "\t") t3, Value.str (Str.ofString "\n") t4, Value.str (Str.ofString "\r") t5, Value.str (Str.ofString "\\") t6, Value.str (Str.ofString "&") t7, Value.str (Str.ofString "<") t8] c0) :: news) := ⟨_, _, _, _, _, _, _, _, _, _, _, N6⟩
  replace hIlt : ∀ p ∈ (tp, po) :: (ls, listOf #[Value.str (Str.ofString "a") t0, Value.str (Str.ofString " ") t1, Value.str (Str.ofString "\"") t2, Value.str (Str.ofString "\t") t3, Value.str (Str.ofString "\n") t4, Value.str (Str.ofString "\r") t5, Value.str (Str.ofString "\\") t6, Value.str (Str.ofString "&") t7, Value.str (Str.ofString "<") t8] c0) :: news, p.1 < hR5.objs.size := fun p hp => by
    rcases List.mem_cons.mp hp with rfl | hp
    · have h := hIlt _ (.head _); exact h
    · rcases List.mem_cons.mp hp with rfl | hp
      · have h := hIlt _ (.tail _ (.head _)); exact h
      · exact hIlt p (.tail _ (.tail _ hp))
  have hall : ∀ q ∈ news, q.1 < tp := fun q hq => allLt_all lb.2 (Nat.le_refl _) q hq
  refine ⟨fun nn m₁ news₁ => ∃ (i hd : Nat) (zz : Int) (T : List Nat) (th tt tz : Tok), m₁ "hand" = some (.int hd th) ∧ m₁ "text" = some (.str (S T) tt) ∧ m₁ "z" = some (.int zz tz) ∧ m₁ "signs" = some (.ref ls) ∧ hd < 6 ∧ T.length = i ∧ i ≤ sz ∧ nn = sz - i ∧
    (∀ c ∈ T, c ∈ ([97, 32, 34, 9, 10, 13, 92, 38, 60] : List Nat)) ∧ news₁ = (hR5.objs.size, rgo (i : Int) ((sz : Int) - (i : Int)) 1) :: (tp, po) :: (ls, listOf #[Value.str (Str.ofString "a") t0, Value.str (Str.ofString " ") t1, Value.str (Str.ofString "\"") t2, Value.str (Str.ofString "\t") t3, Value.str (Str.ofString "\n") t4, Value.str (Str.ofString "\r") t5, Value.str (Str.ofString "\\") t6, Value.str (Str.ofString "&") t7, Value.str (Str.ofString "<") t8] c0) :: news, sz, _, _, F6, N6, ?j0, ?turn⟩
  case j0 => exact ⟨0, Int.toNat _, _, [], _, _, _, vint (Int.toNat_of_nonneg (Int.fmod_nonneg_of_pos _ (by decide))).symm, rfl, rfl, rfl, by have := Int.fmod_lt_of_pos ((if x < 0 then -x else x).fmod (10 ^ Int.toNat 9)) (b := 6) (by decide); have := Int.fmod_nonneg_of_pos ((if x < 0 then -x else x).fmod (10 ^ Int.toNat 9)) (b := 6) (by decide); omega, rfl, Nat.zero_le _, rfl, by simp, by simp⟩
  case turn =>
    clear F6 N6 F5 N5
    rintro nn m₁ news₁ h₁ tk₁ - F1 N1 ⟨i, hd, zz, T, th, tt, tz, e1, e2, e3, e4, hhd, hTi, hi, hnn, hT, rfl⟩
    replace F1 := fr_pin4 F1 e1 e2 e3 e4
    by_cases hlt : i < sz
    · refine next_range F1 N1 hIlt (by omega) fun h2 F2 N2 => ?_
      dsimp only
      clear F1 N1
      have hSl : (S T).length ≤ 7 := by rw [S_len]; omega
      (k_with "binaryOp Add str str" => refine halt ?_)
      k_steps
      refine unhalt ?_
      k_with_none
      (k_with "execs cons" => ((rename Fr _ _ _ _ => FZ); refine gtkF FZ gz dz oz rfl ?_; intro tkF))
      obtain ⟨c, hc, hce⟩ := signs_get (zz.fmod 9).toNat (by have := Int.fmod_lt_of_pos zz (b := 9) (by decide); have := Int.fmod_nonneg_of_pos zz (b := 9) (by decide); omega)
      rw [hce]
      have hSc : (S [c]).length = 1 := by rw [S_len]; rfl
      k_steps
      rename Fr _ _ _ _ => F3
      rename News _ _ _ _ => N3
      refine WStep.intro F3 N3 (n' := sz - (i + 1)) (by omega) ⟨i + 1, hd, _, T ++ [c], _, _, _, rfl, vstr (by rw [S_app]), rfl, rfl, hhd, by simp [hTi], by omega, rfl, ?_, ?_⟩
      · intro d hd9
        rcases List.mem_append.mp hd9 with h | h
        · exact hT d h
        · rw [List.mem_singleton.mp h]; exact hc
      · have q1 : ((i + 1 : Nat) : Int) = (i : Int) + 1 := by omega
        have q2 : (sz : Int) - ((i + 1 : Nat) : Int) = (sz : Int) - (i : Int) - 1 := by omega
        rw [q2, q1]
    · refine next_range_end rfl F1 N1 hIlt (by omega) fun h2 F2 N2 => ?_
      dsimp only
      clear F1 N1
      k_steps
      rename Fr h₀ _ _ _ => F3
      rename News h₀ _ _ _ => N3
      rename_i tp9 h9 F9 N9 l9 _ _
      refine hret tp9 hd th tt T _ _ hhd (by omega) hT F3 (news_sub N3 ?_) ?_
      · intro p hp
        simp only [List.mem_cons] at hp ⊢
        rcases hp with h | h <;> simp [h]
      · intro q hq
        first | exact allLt_all l9.2.2 (Nat.le_refl _) q hq | exact allLt_all l9.2 (Nat.le_refl _) q hq | exact Nat.lt_trans (hall q hq) l9.1
end Mine
end
-- E_words
section
open PySem PySem.W PyProof.Rows PySem.Spec PySem.Calls
set_option Elab.async false
set_option maxRecDepth 100000
set_option maxHeartbeats 16000000
namespace Mine
/-- the words at blanks and tabs -/
noncomputable def words (x : List Nat) : List (List Nat) := (spl 32 (rep 9 [32] x)).filter (fun y => S y != S [])
theorem rep1_len (c b : Nat) (x : List Nat) : (rep c [b] x).length = x.length := by
  unfold rep
  induction x with
  | nil => rfl
  | cons a r ih => rw [List.flatMap_cons, List.length_append, ih]; split <;> simp <;> omega
theorem spl_len (c : Nat) (x : List Nat) : (spl c x).length ≤ x.length + 1 := by
  induction x with
  | nil => simp [spl]
  | cons a r ih =>
    rw [spl]
    split
    · simp; omega
    · split <;> simp_all <;> omega
theorem c_words {w : World} {p : Program} {loose : List Str} {mean : ExcName → Option Value} {mg mb : Str → Option Value} {news : List (Addr × Obj)} (x : List Nat) (tx : Tok) (hx : x.length < 200) :
  ∀ (cn : Str) (nm : List (Str × NameKind)) (mr : List (Str × Const)) (a : Addr) (ccd : Value) (cl : List (Str × Addr)) (outer : List Env) (A₀ : Around) (base h₀ : Heap) (L : Addr) (m : Str → Option Value) (s : Shared) (Q E : Value → Shared → Prop),
    Below A₀ base outer h₀ → Fr h₀ L s.heap m → (hd.heap_1 w.params).In h₀ → News h₀ L s.heap news → Top p loose mean mg mb h₀ →
    (∀ (D c : Nat) (ys : List Value) (h' : Heap) (tk' : Nat), Fr h₀ L h' m → News h₀ L h' ((D, listOf ys.toArray c) :: news) → (∀ p ∈ news, p.1 ≠ D) → StrsA ys (words x) → Q (.ref D) { s with heap := h', toks := tk' }) →
      wpAny (model PySem.Challenge.rw_wu0094_01.row.prog w) (ktrTop 600 3000 (some []) cn (fsc nm mr) L a ccd cl outer) (call (.ref 346) [.str (S x) tx]) Q E s := by
  k_fill
  k_with_none
  have hrl : (rep 9 [32] x).length = x.length := rep1_len _ _ _
  have hxl : (S x).length = x.length := S_len x
  intro cn nm mr a ccd cl outer A₀ base h₀ L m s Q E B F K N TT hret
  refine wpAny_call ?_
  k_dflt k_enter
  (k_with "execs cons" => (refine gtkS (by with_unfolding_all exact Nat.succ_ne_zero _) ?_; intro tk9 htk9))
  (k_with "call builtin:str.replace" => ((first | refine repl_txt 9 [32] (by with_unfolding_all rfl) (by with_unfolding_all rfl) (by first | assumption | with_unfolding_all exact Nat.succ_ne_zero _) (by with_unfolding_all exact Nat.succ_ne_zero _) (by first | exact Nat.ne_of_lt (Nat.lt_succ_self _) | ((show @Ne Nat _ _); omega)) (by decide) (by omega) (by decide) ?_); intro t9 k9))
  (k_with "call builtin:str.split" => ((refine' split_txt (c := 32) (by with_unfolding_all rfl) (by omega) ?sF ?sN ?_); (case sF => k_asm); (case sN => k_asm); intro D8 vs8 h8 k8 F8 N8 l8 hs8; (try k_lt l8)))
  (k_with "pyIter ref" => refine halt ?_)
  k_steps
  k_with_none
  refine unhalt ?_
  rename Fr _ _ _ _ => F5
  rename News _ _ _ _ => N5
  have hvl : vs8.length ≤ 300 := by rw [hs8.len]; exact Nat.le_trans (spl_len _ _) (by omega)
  refine comp_strs (pz := fun a => a != Str.ofString "") rfl hs8 (by rw [← hs8.len]; omega) (News.isList (a := D8) N5 (.head _)) F5 N5 ?q1 ?q2 ?q3
  case' q1 => (intros; (rename ItemKind.is _ _ _ => i'); (obtain ⟨_, e'⟩ := ItemKind.str_is i'; subst e'); (refine wpAny_leafK ?_); (try (first | ((with_reducible refine markB ?_); intro _) | ((with_reducible refine markD ?_); intro _))))
  case' q2 => (intros; (rename ItemKind.is _ _ _ => i'); (obtain ⟨_, e'⟩ := ItemKind.str_is i'; subst e'); (refine wpAny_leafK ?_); (try (first | ((with_reducible refine markB ?_); intro _) | ((with_reducible refine markD ?_); intro _))))
  case' q3 => intro D9 ys9 c9 h9 tk9 F9 N9 hD9 hys9
  all_goals k_steps
  rename Fr h₀ _ _ _ => F2
  rename News h₀ _ _ _ => N2
  refine hret D9 c9 ys9 _ _ F2 (news_sub N2 ?e2) (fun p hp => hD9 p (by simp [hp])) hys9
  intro p hp
  simp only [List.mem_cons] at hp ⊢
  rcases hp with h | h <;> simp [h]
end Mine
end
-- E_netrc
section
open PySem PySem.W PyProof.Rows PySem.Spec PySem.Calls
set_option Elab.async false
set_option maxRecDepth 100000
set_option maxHeartbeats 16000000
namespace Mine
noncomputable abbrev JNr (w : World) (σ : Strm) (l : Lex) (T : List Nat) (tx : Tok) (wl : Nat) (news : List (Addr × Obj)) (nn : Nat) (m₁ : Str → Option Value) (news₁ : List (Addr × Obj)) : Prop :=
  ∃ (k n' c : Nat) (tk tn : Tok) (vs : List Value) (xs : List (List Nat)), m₁ "place" = some (.ref σ.pl) ∧ m₁ "writing" = some (.str (S T) tx) ∧ m₁ "lexer" = some (.ref l.lx) ∧ m₁ "words" = some (.ref wl) ∧ k ≤ T.length ∧ n' + nl (T.drop k) = 1 + nl T ∧
    StrsA vs xs ∧ xs ++ toks (T.drop k) = toks T ∧ xs.length ≤ k ∧ nn = T.length - k ∧ news₁ = (wl, listOf vs.toArray c) :: LexNews w l σ k n' tk tn ((348, tabObj #[rawInt 288, rawInt 4, .ref σ.c]) :: news)
theorem c_netrc {w : World} {p : Program} {loose : List Str} {mean : ExcName → Option Value} {mg mb : Str → Option Value} {news : List (Addr × Obj)} (tx : Tok) (T : List Nat) (hT : T.length < 200) {tb : Obj} :
  ∀ (cn : Str) (nm : List (Str × NameKind)) (mr : List (Str × Const)) (a : Addr) (ccd : Value) (cl : List (Str × Addr)) (outer : List Env) (A₀ : Around) (base h₀ : Heap) (L : Addr) (m : Str → Option Value) (s : Shared) (Q E : Value → Shared → Prop),
    Below A₀ base outer h₀ → Fr h₀ L s.heap m → (hd.heap_1 w.params).In h₀ → News h₀ L s.heap ((348, tb) :: news) → Top p loose mean mg mb h₀ → CodeHd base 352 348 → (∀ p ∈ news, p.1 ≠ 348) → TabOk tb news →
    (CutRet h₀ L m news s Q (1 + nl T) ((toks T).filter (fun x => S x != S []))) →
      wpAny (model PySem.Challenge.rw_wu0094_01.row.prog w) (ktrTop 600 3000 (some []) cn (fsc nm mr) L a ccd cl outer) (call (.ref 363) [.str (S T) tx]) Q E s := by
  k_fill
  k_with_none
  have hTl : (S T).length = T.length := S_len T
  intro cn nm mr a ccd cl outer A₀ base h₀ L m s Q E B F K N TT C h348 hT2 hret
  obtain ⟨hpz, gz, dz, tz, oz⟩ := s
  dsimp only at F N hret
  (k_with "execs cons" => ((rename Fr _ _ _ _ => FZ); refine gtkF FZ gz dz oz rfl ?_; intro tkF))
  refine wpAny_call ?_
  k_dflt k_enter
  (k_with "call ref" => refine halt ?_)
  k_steps
  k_with_none
  (k_with "execs cons" => ((rename Fr _ _ _ _ => FZ); refine gtkF FZ gz dz oz rfl ?_; intro tkF))
  refine unhalt ?_
  rename Fr _ _ _ _ => F1
  rename News _ _ _ _ => N1
  rename Below _ _ _ _ => B1
  rename Frag.In _ _ => K1
  rename Top _ _ _ _ _ _ => T1
  (try dsimp only [List.nil_append, List.cons_append, List.append_nil])
  refine wpAny_weaken (B := ktrTop 700 4000 (some []) _ (fsc _ _) _ _ _ _ _) rfl (Nat.le_of_ble_eq_true rfl) rfl rfl (Nat.le_of_ble_eq_true rfl) (c_stream tx T hT _ _ _ _ _ _ _ _ _ _ _ _ _ _ _ B1 F1 K1 N1 T1 C h348 hT2 ?rr)
  intro σ D t h9 tk9 hO hD hlow h349 hR F2 N2 hcode
  clear F1 N1
  dsimp only [StreamNews] at N2
  have hO' := hO
  dsimp only [Strm.Ord] at hO'
  have hlow' : AllLt σ.c1 news := allLt_of hlow
  dsimp only
  (k_with "exec While Compare cons nil" => refine halt ?_)
  k_steps
  k_with_none
  (k_with "execs cons" => ((rename Fr _ _ _ _ => FZ); refine gtkF FZ gz dz oz rfl ?_; intro tkF))
  refine unhalt ?_
  rename_i xl dl hq1 l1a l2a gq Lq hq2 Bq Xq Tq tf4 hq3 tf3 hq4 tf2 hq5 tf1 lp hq6 l1b hq7 Fq Nq Tcq kXq hq8 tf0 wl hA wlf h6 N4
  rename Fr _ _ _ _ => F4
  obtain ⟨l, hlx, hldl, hllp, N5⟩ := lex_of (w := w) (σ := σ) (lx := xl) (dl := dl) (lp := lp) N4
  have hL : l.Ord σ := by dsimp only [Lex.Ord]; rw [hlx, hldl, hllp]; omega
  have hlx := hlx.symm
  have hwl : l.lp < wl := by rw [hllp]; omega
  have hL' := hL
  dsimp only [Lex.Ord] at hL'
  rw [hlx] at F4
  clear N4 Nq Fq Bq
  have hlow2 : ∀ q ∈ (348, tabObj #[rawInt 288, rawInt 4, .ref σ.c]) :: news, q.1 < (σ.c1 : Nat) := fun q hq => by
    simp only [List.mem_cons] at hq
    rcases hq with rfl | hq
    · exact h349
    · exact hlow q hq
  have hnT : 1 + nl T ≤ 201 := by have := List.count_le_length (a := 10) (l := T); unfold nl; omega
  refine While_w (JNr w σ l T tx wl news) (n₀ := T.length) F4 N5 ?_ ?_
  · exact ⟨0, 1, 0, _, _, [], [], rfl, rfl, rfl, rfl, by omega, by simp, .nil, by simp, by simp, by omega, rfl⟩
  clear F4 N5
  rintro nn m₁ news₁ h₁ tk₁ - F4 N4 ⟨k, n', c, tkA, tnA, vs, xs, e1, e2, e3, e4, hk, hn', hvs, hxs, hxl, hnn, rfl⟩
  replace F4 := fr_pin4 F4 e1 e2 e3 e4
  dsimp only [LexNews] at N4
  have hvl : vs.length ≤ 200 := by rw [hvs.len]; omega
  (k_with "call ref" => refine halt ?_)
  k_steps
  · refine unhalt ?_
    k_with_none
    (k_with "execs cons" => ((rename Fr _ _ _ _ => FZ); refine gtkF FZ gz dz oz rfl ?_; intro tkF))
    rename_i hlt9
    have hk2 : k < T.length := by
      have e : (([↑k] : List Int).getD (Int.toNat 0) 0) = (k : Int) := rfl
      rw [e, hTl] at hlt9
      omega
    have hdr : T.drop k ≠ [] := by intro e; have := congrArg List.length e; rw [List.length_drop] at this; simp at this; omega
    rename Fr _ _ _ _ => F5
    rename News _ _ _ _ => N5
    (try dsimp only [List.nil_append, List.cons_append, List.append_nil])
    refine wpAny_weaken (B := ktrTop 800 6000 (some []) _ (fsc _ _) _ _ _ _ _) rfl (Nat.le_of_ble_eq_true rfl) rfl rfl (Nat.le_of_ble_eq_true rfl) (wpAny_call (c_tok (k := k) (n := n') (tk := tkA) (tn := tnA) (news := (wl, listOf vs.toArray c) :: (348, tabObj #[rawInt 288, rawInt 4, .ref σ.c]) :: news) hR hO hL hT hk (by omega) ?g1 _ _ _ _ _ _ _ _ _ _ _ _ _ _ B1 F5 K1 (news_move (a := [(wl, listOf vs.toArray c)]) (b := LexNews w l σ k n' tkA tnA []) (c := (348, tabObj #[rawInt 288, rawInt 4, .ref σ.c]) :: news) N5) T1 C ?g3))
    case g1 =>
      intro q hq
      simp only [List.mem_cons] at hq
      rcases hq with rfl | hq
      · exact .inr hwl
      · exact .inl (hlow2 q (by simpa using hq))
    intro k2 n2 t2 tk2 tn2 h2 q2 hd2 hk2' hn2 F6 N6
    clear F5 N5
    replace N6 := news_move (a := LexNews w l σ k2 n2 tk2 tn2 []) (b := [(wl, listOf vs.toArray c)]) (c := (348, tabObj #[rawInt 288, rawInt 4, .ref σ.c]) :: news) N6
    dsimp only [LexNews, List.cons_append, List.nil_append] at N6
    dsimp only
    k_steps
    rename Fr _ _ _ _ => F7
    rename News _ _ _ _ => N7
    have hlt := tok_lt (T.drop k) hdr
    rw [← hd2, List.length_drop, List.length_drop] at hlt
    (try dsimp only [List.nil_append, List.cons_append, List.append_nil] at N7)
    (try simp only [List.push_toArray] at N7)
    obtain ⟨c9, N8⟩ : ∃ c9, News _ _ _ ((wl, listOf (vs ++ [Value.str (S (tok (T.drop k)).1) t2]).toArray c9) :: LexNews w l σ k2 n2 tk2 tn2 ((348, tabObj #[rawInt 288, rawInt 4, .ref σ.c])  :: news)) := by
      exact ⟨_, N7⟩
    refine WStep.intro F7 N8 (n' := T.length - k2) (by omega) ⟨k2, n2, _, _, _, _, xs ++ [(tok (T.drop k)).1], rfl, rfl, rfl, rfl, hk2', by omega, hvs.snoc _ _, ?h2, ?h3, rfl, rfl⟩
    case h2 => rw [← hxs, toks_ne hdr, hd2, List.append_assoc]; rfl
    case h3 => rw [List.length_append, List.length_singleton]; omega
  · k_with_none
    (k_with "execs cons" => ((rename Fr _ _ _ _ => FZ); refine gtkF FZ gz dz oz rfl ?_; intro tkF))
    rename Fr _ _ _ _ => F5
    rename News _ _ _ _ => N5
    rename_i hlt9
    have hk2 : k = T.length := by
      have e : (([↑k] : List Int).getD (Int.toNat 0) 0) = (k : Int) := rfl
      rw [e, hTl] at hlt9
      omega
    have hdr : T.drop k = [] := by rw [hk2]; simp
    have hxs2 : xs = toks T := by rw [← hxs, hdr, toks_nil, List.append_nil]
    have hn2 : n' = 1 + nl T := by rw [hdr] at hn'; simpa [nl] using hn'
    refine comp_strs (pz := fun a => a != Str.ofString "") rfl hvs (by omega) (News.isList (a := wl) N5 (.head _)) F5 N5 ?q1 ?q2 ?q3
    case' q1 => (intros; (rename ItemKind.is _ _ _ => i'); (obtain ⟨_, e'⟩ := ItemKind.str_is i'; subst e'); (refine wpAny_leafK ?_); (try (first | ((with_reducible refine markB ?_); intro _) | ((with_reducible refine markD ?_); intro _))))
    case' q2 => (intros; (rename ItemKind.is _ _ _ => i'); (obtain ⟨_, e'⟩ := ItemKind.str_is i'; subst e'); (refine wpAny_leafK ?_); (try (first | ((with_reducible refine markB ?_); intro _) | ((with_reducible refine markD ?_); intro _))))
    case' q3 => intro D9 ys9 c9 h9 tk9 F9 N9 hD9 hys9
    all_goals k_steps
    rename_i D8 h8 F8' N8' l8 F8 N8 Tc8 kX8
    obtain ⟨vs9, t9, hv1, hv2⟩ := hcode
    have hD348 : D8 ≠ 348 := by
      intro e
      have g1 := (N8 (D8, _) (.head _)).1
      have g2 := (N8 (348, tabObj #[rawInt 288, rawInt 4, .ref σ.c]) (by k_mem)).1
      rw [show ((D8, _) : Addr × Obj).1 = 348 from e] at g1
      have g3 := congrArg Obj.cls (Option.some.inj (g1.symm.trans g2))
      exact absurd g3 (by simp)
    have hc348 : σ.c ≠ 348 := by
      intro e
      have g1 := (N8 (σ.c, σ.oc) (by k_mem)).1
      have g2 := (N8 (348, tabObj #[rawInt 288, rawInt 4, .ref σ.c]) (by k_mem)).1
      rw [show ((σ.c, σ.oc) : Addr × Obj).1 = 348 from e] at g1
      have g3 := Option.some.inj (g1.symm.trans g2)
      dsimp only at g3
      rw [g3] at hv1
      dsimp only at hv1
      rw [← Data.fields.inj hv1] at hv2
      exact absurd hv2 (by simp [rawInt])
    have hD9' : (348 : Nat) ≠ D9 := hD9 (348, tabObj #[rawInt 288, rawInt 4, .ref σ.c]) (by k_mem)
    rw [hxs2] at hys9
    refine hret D8 D9 σ.c c9 σ.oc (tabObj #[rawInt 288, rawInt 4, .ref σ.c]) tnA ys9 h8 _ hys9 (.inr ⟨σ.c, σ.oc, vs9, t9, rfl, by k_mem, hv1, hv2⟩) ?e1 F8 (news_sub N8 ?e2)
    case e1 => exact List.forall_mem_cons.mpr ⟨hD348, List.forall_mem_cons.mpr ⟨fun e => hD9' e.symm, List.forall_mem_cons.mpr ⟨hc348, h348⟩⟩⟩
    case e2 =>
      rw [← hn2]
      exact List.forall_mem_cons.mpr ⟨by k_mem, List.forall_mem_cons.mpr ⟨by k_mem, List.forall_mem_cons.mpr ⟨by k_mem, List.forall_mem_cons.mpr ⟨by k_mem, fun p hp => by repeat (first | exact hp | apply List.Mem.tail)⟩⟩⟩⟩
end Mine
end
-- E_p257
section
open PySem PySem.W PyProof.Rows PySem.Spec PySem.Calls
set_option Elab.async false
set_option maxRecDepth 100000
set_option maxHeartbeats 16000000
namespace Mine
noncomputable def dirn : List Nat → List Nat
  | [] => []
  | 34 :: 34 :: r => 34 :: dirn r
  | 34 :: _ => []
  | c :: r => c :: dirn r
theorem dirn_q1 : dirn [34] = [] := by simp [dirn]
theorem dirn_q2 (r : List Nat) : dirn (34 :: 34 :: r) = 34 :: dirn r := by simp [dirn]
theorem dirn_q3 {c : Nat} (r : List Nat) (h : c ≠ 34) : dirn (34 :: c :: r) = [] := by simp [dirn, h]
theorem dirn_c {c : Nat} (r : List Nat) (h : c ≠ 34) : dirn (c :: r) = c :: dirn r := by
  conv => lhs; unfold dirn
  split <;> simp_all
noncomputable abbrev JDn (W : List Nat) (x : Str) (tx : Tok) (news : List (Addr × Obj)) (n : Nat) (m₁ : Str → Option Value) (news₁ : List (Addr × Obj)) : Prop :=
  ∃ (k : Nat) (d r : List Nat) (ti td tn : Tok), m₁ "resp" = some (.str x tx) ∧ m₁ "i" = some (.int k ti) ∧ m₁ "n" = some (.int x.length tn) ∧ m₁ "dirname" = some (.str (S d) td) ∧ k ≤ x.length ∧ n = x.length - k ∧ r = (W.drop (k - 5)) ∧ 5 ≤ k ∧ d ++ dirn r = dirn W ∧ d.length ≤ k ∧ news₁ = news
theorem c_p257 {w : World} {p : Program} {loose : List Str} {mean : ExcName → Option Value} {mg mb : Str → Option Value} {news : List (Addr × Obj)} (tx : Tok) (W : List Nat) (hW : W.length < 200) :
  ∀ (cn : Str) (nm : List (Str × NameKind)) (mr : List (Str × Const)) (a : Addr) (ccd : Value) (cl : List (Str × Addr)) (outer : List Env) (A₀ : Around) (base h₀ : Heap) (L : Addr) (m : Str → Option Value) (s : Shared) (Q E : Value → Shared → Prop),
    Below A₀ base outer h₀ → Fr h₀ L s.heap m → (hd.heap_1 w.params).In h₀ → News h₀ L s.heap news → Top p loose mean mg mb h₀ →
    (∀ (t : Tok) (h' : Heap) (tk' : Nat), Fr h₀ L h' m → News h₀ L h' news → Q (.str (S (dirn W)) t) { s with heap := h', toks := tk' }) →
      wpAny (model PySem.Challenge.rw_wu0094_01.row.prog w) (ktrTop 600 2000 (some []) cn (fsc nm mr) L a ccd cl outer) (call (.ref 236) [.str (S ([50,53,55,32,34] ++ W)) tx]) Q E s := by
  k_fill
  k_with_none
  generalize hx : S ([50,53,55,32,34] ++ W) = x
  have hxl : x.length = W.length + 5 := by subst hx; rw [S_len]; simp
  have hl : x.length < 205 := by omega
  intro cn nm mr a ccd cl outer A₀ base h₀ L m s Q E B F K N TT hret
  obtain ⟨hpz, gz, dz, tz, oz⟩ := s
  dsimp only at F N hret
  (k_with "execs cons" => ((rename Fr _ _ _ _ => FZ); refine gtkF FZ gz dz oz rfl ?_; intro tkF))
  refine wpAny_call ?_
  k_dflt k_enter
  (k_with "exec While Compare cons nil" => refine halt ?_)
  k_steps
  · exfalso
    rename (Txt.slice x none (some 3) != _) = true => hh
    rw [← hx, show (3 : Int) = ((3 : Nat) : Int) from rfl, slice_to, show Str.ofString "257" = S [50,53,55] from rfl, S_bne] at hh
    simp at hh
  · exfalso
    rename (Txt.slice x (some 3) (some 5) != _) = true => hh
    rw [← hx, show (3 : Int) = ((3 : Nat) : Int) from rfl, show (5 : Int) = ((5 : Nat) : Int) from rfl, slice_S _ (by decide), show Str.ofString " \"" = S [32,34] from rfl, S_bne] at hh
    simp at hh
  k_with_none
  (k_with "execs cons" => ((rename Fr _ _ _ _ => FZ); refine gtkF FZ gz dz oz rfl ?_; intro tkF))
  refine unhalt ?_
  rename Fr _ _ _ _ => F1
  rename News _ _ _ _ => N1
  refine While_w (JDn W x tx news) (n₀ := x.length - 5) F1 N1 ?_ ?_
  · exact ⟨5, [], _, _, _, _, rfl, rfl, rfl, rfl, by omega, rfl, rfl, by decide, rfl, by decide, rfl⟩
  clear F1 N1
  rintro n m₁ news₁ h₁ tk₁ - F1 N1 ⟨k, d, r, ti, td, tn, e1, e2, e3, e4, hk, hn, hr, hk5, hd, hdk, rfl⟩
  replace F1 := fr_pin4 F1 e1 e2 e3 e4
  have hdl : (S d).length ≤ 205 := by rw [S_len]; omega
  have hdrop : ∀ j, W.drop (k - 5) = j → ∀ i c, j[i]? = some c → Txt.item x ((k + i : Nat) : Int) = S [c] := by
    intro j hj i c hc
    have h1 : ([50,53,55,32,34] ++ W)[k + i]? = some c := by
      rw [List.getElem?_append_right (by simp; omega), ← hc, ← hj, List.getElem?_drop]; congr 1; simp; omega
    obtain ⟨h2, h3⟩ := List.getElem?_eq_some_iff.mp h1
    rw [← hx, item_S h2, h3]
  have hWl : (W.drop (k - 5)).length = x.length - k := by rw [List.length_drop, hxl]; exact Nat.sub_sub_right _ (by assumption)
  k_steps
  all_goals try (dsimp only; (refine WStep.brk ?_); k_steps)
  · rename (Txt.item x (k : Int) == _) = true => hq
    have hWl' := hWl
    rw [← hr] at hWl'
    cases r with
    | nil => exfalso; simp at hWl'; omega
    | cons c r' =>
      have hi0 := hdrop _ hr.symm 0 c rfl
      simp only [Nat.add_zero] at hi0
      rw [List.length_cons] at hWl'
      rw [hi0, show Str.ofString "\"" = S [34] from rfl, S_beq] at hq
      have hc : c = 34 := by simpa using hq
      subst hc
      have hr' : r' = [] := List.eq_nil_of_length_eq_zero (by omega)
      subst hr'
      rw [dirn_q1, List.append_nil] at hd
      rw [hd]
      exact hret _ _ _ (by assumption) (by assumption)
  · rename (Txt.item x (k : Int) == _) = true => hq
    rename (Txt.item x ((k : Int) + 1) != _) = true => hq2
    have hWl' := hWl
    rw [← hr] at hWl'
    cases r with
    | nil => exfalso; simp at hWl'; omega
    | cons c r' =>
      have hi0 := hdrop _ hr.symm 0 c rfl
      simp only [Nat.add_zero] at hi0
      rw [List.length_cons] at hWl'
      rw [hi0, show Str.ofString "\"" = S [34] from rfl, S_beq] at hq
      have hc : c = 34 := by simpa using hq
      subst hc
      cases r' with
      | nil => exfalso; simp at hWl'; omega
      | cons c2 r' =>
        have hi1 := hdrop _ hr.symm 1 c2 rfl
        rw [show ((k + 1 : Nat) : Int) = (k : Int) + 1 from by omega] at hi1
        rw [hi1, show Str.ofString "\"" = S [34] from rfl, S_bne] at hq2
        have hc2 : c2 ≠ 34 := by simpa using hq2
        rw [dirn_q3 _ hc2, List.append_nil] at hd
        rw [hd]
        exact hret _ _ _ (by assumption) (by assumption)
  · rename (Txt.item x (k : Int) == _) = true => hq
    rename (Txt.item x ((k : Int) + 1) != _) = false => hq2
    have hWl' := hWl
    rw [← hr] at hWl'
    cases r with
    | nil => exfalso; simp at hWl'; omega
    | cons c r' =>
      have hi0 := hdrop _ hr.symm 0 c rfl
      simp only [Nat.add_zero] at hi0
      rw [List.length_cons] at hWl'
      rw [hi0, show Str.ofString "\"" = S [34] from rfl, S_beq] at hq
      have hc : c = 34 := by simpa using hq
      subst hc
      cases r' with
      | nil => exfalso; simp at hWl'; omega
      | cons c2 r' =>
        have hi1 := hdrop _ hr.symm 1 c2 rfl
        rw [show ((k + 1 : Nat) : Int) = (k : Int) + 1 from by omega] at hi1
        rw [hi1, show Str.ofString "\"" = S [34] from rfl, S_bne] at hq2
        have hc2 : c2 = 34 := by simpa using hq2
        subst hc2
        rw [dirn_q2] at hd
        rename Fr _ _ _ _ => F2
        rename News _ _ _ _ => N2
        refine WStep.intro F2 N2 (n' := x.length - (k + 2)) (by omega) ⟨k + 2, d ++ [34], r', _, _, _, rfl, vint (by omega), rfl, vstr (by rw [hi0, S_app]), by omega, rfl, ?_, by omega, ?_, ?_, rfl⟩
        · rw [show k + 2 - 5 = (k - 5) + 2 from by omega, ← List.drop_drop, ← hr]; rfl
        · rw [← hd]; simp
        · simp; omega
  · rename (Txt.item x (k : Int) == _) = false => hq
    have hWl' := hWl
    rw [← hr] at hWl'
    cases r with
    | nil => exfalso; simp at hWl'; omega
    | cons c r' =>
      have hi0 := hdrop _ hr.symm 0 c rfl
      simp only [Nat.add_zero] at hi0
      rw [List.length_cons] at hWl'
      rw [hi0, show Str.ofString "\"" = S [34] from rfl, S_beq] at hq
      have hc : c ≠ 34 := by simpa using hq
      rw [dirn_c _ hc] at hd
      rename Fr _ _ _ _ => F2
      rename News _ _ _ _ => N2
      refine WStep.intro F2 N2 (n' := x.length - (k + 1)) (by omega) ⟨k + 1, d ++ [c], r', _, _, _, rfl, vint (by omega), rfl, vstr (by rw [hi0, S_app]), by omega, rfl, ?_, by omega, ?_, ?_, rfl⟩
      · rw [show k + 1 - 5 = (k - 5) + 1 from by omega, ← List.drop_drop, ← hr]; rfl
      · rw [← hd]; simp
      · simp; omega
  · have hr0 : r = [] := List.eq_nil_of_length_eq_zero (by rw [hr, hWl]; omega)
    rw [hr0, dirn, List.append_nil] at hd
    rw [hd]
    exact hret _ _ _ (by assumption) (by assumption)
end Mine
end
-- PL
section
open PySem PySem.W PyProof.Rows PySem.Spec PySem.Calls
set_option Elab.async false
set_option maxRecDepth 100000
namespace Mine
noncomputable abbrev nine : List Nat := [97, 32, 34, 9, 10, 13, 92, 38, 60]
noncomputable def told (i c : Nat) : List Nat := ((tbl i).lookup c).getD [c]
theorem rep_flat (c : Nat) (z : List Nat) (f : Nat → List Nat) (x : List Nat) : rep c z (x.flatMap f) = x.flatMap (fun a => rep c z (f a)) := by
  unfold rep; rw [List.flatMap_assoc]
theorem esc_flat (i : Nat) (hi : i < 6) (x : List Nat) : esc i x = x.flatMap (fun a => esc i [a]) := by
  have h0 : x = x.flatMap (fun a => [a]) := by simp
  rcases i with _ | _ | _ | _ | _ | _ | i
  · exact h0
  all_goals first | omega | (simp only [esc]; conv => lhs; rw [h0]) <;> simp only [rep_flat]
theorem esc_told (i : Nat) (hi : i < 6) (x : List Nat) (hx : ∀ c ∈ x, c ∈ nine) : esc i x = x.flatMap (told i) := by
  rw [esc_flat i hi]
  have key : ∀ i < 6, ∀ a ∈ nine, esc i [a] = told i a := by decide +kernel
  induction x with
  | nil => rfl
  | cons a r ih => rw [List.flatMap_cons, List.flatMap_cons, ih (fun c hc => hx c (.tail _ hc)), key i hi a (hx a (.head _))]
end Mine
end
-- PD
section
open PySem PySem.W PyProof.Rows PySem.Spec PySem.Calls
set_option Elab.async false
set_option maxRecDepth 100000
namespace Mine
theorem dirn_len : ∀ (n : Nat) (l : List Nat), l.length ≤ n → (dirn (l ++ [34])).length ≤ l.length
  | _, [], _ => by simp [dirn]
  | 0, _ :: _, h => absurd h (by simp)
  | n + 1, c :: r, h => by
    simp only [List.length_cons] at h
    by_cases hc : c = 34
    · subst hc
      cases r with
      | nil => simp [dirn]
      | cons d r =>
        by_cases hd : d = 34
        · subst hd
          simp only [List.length_cons] at h
          have := dirn_len n r (by omega)
          rw [List.cons_append, List.cons_append, dirn_q2]
          simp only [List.length_cons]; omega
        · rw [List.cons_append, List.cons_append, dirn_q3 _ hd]; simp
    · rw [List.cons_append, dirn_c _ hc]
      have := dirn_len n r (by omega)
      simp only [List.length_cons]; omega
theorem dirn_iff : ∀ (W : List Nat), dirn (W ++ [34]) = W ↔ 34 ∉ W.dropLast
  | [] => by simp [dirn]
  | c :: r => by
    by_cases hc : c = 34
    · subst hc
      cases r with
      | nil => simp [dirn]
      | cons d r =>
        have h1 : 34 ∈ (34 :: d :: r).dropLast := by simp [List.dropLast]
        refine ⟨fun e => ?_, fun e => absurd h1 e⟩
        exfalso
        by_cases hd : d = 34
        · subst hd
          rw [List.cons_append, List.cons_append, dirn_q2] at e
          have e2 := List.tail_eq_of_cons_eq e
          have := congrArg List.length e2
          have h3 := dirn_len _ r (Nat.le_refl _)
          simp only [List.length_cons] at this
          omega
        · rw [List.cons_append, List.cons_append, dirn_q3 _ hd] at e
          cases e
    · rw [List.cons_append, dirn_c _ hc]
      have ih := dirn_iff r
      cases r with
      | nil => simp [dirn]
      | cons d r =>
        rw [List.dropLast_cons_of_ne_nil (by simp)]
        simp only [List.cons.injEq, true_and, List.mem_cons, not_or]
        rw [ih]
        exact ⟨fun h => ⟨fun e => hc e.symm, h⟩, fun h => h.2⟩
/-- the signs that the hand leaves as they are -/
noncomputable def bareOf (i : Nat) (T : List Nat) : List Nat := T.filter fun c => ((tbl i).lookup c).isNone
theorem quote_told : ∀ i < 6, ∀ a ∈ nine, (34 ∈ told i a ↔ a = 34 ∧ ((tbl i).lookup 34).isNone) := by decide +kernel
theorem quote_told2 : ∀ i < 6, ∀ a ∈ nine, 34 ∉ (told i a).dropLast ∧ told i a ≠ [] := by decide +kernel
theorem mem_bare (i c : Nat) (T : List Nat) : c ∈ bareOf i T ↔ c ∈ T ∧ ((tbl i).lookup c).isNone := by simp [bareOf]
theorem quote_esc (i : Nat) (hi : i < 6) (T : List Nat) (hT : ∀ c ∈ T, c ∈ nine) : 34 ∈ T.flatMap (told i) ↔ 34 ∈ bareOf i T := by
  rw [mem_bare, List.mem_flatMap]
  constructor
  · rintro ⟨a, ha, h⟩
    obtain ⟨rfl, h2⟩ := (quote_told i hi a (hT a ha)).mp h
    exact ⟨ha, h2⟩
  · rintro ⟨ha, h⟩
    exact ⟨34, ha, (quote_told i hi 34 (hT 34 ha)).mpr ⟨rfl, h⟩⟩
/-- parse257 tells the whole writing if and only if no bare quotation mark stands but at the end -/
theorem law_inner (i : Nat) (hi : i < 6) (T : List Nat) (hT : ∀ c ∈ T, c ∈ nine) :
    dirn (T.flatMap (told i) ++ [34]) = T.flatMap (told i) ↔ ¬ (34 ∈ bareOf i T ∧ 34 ∈ T.dropLast) := by
  rw [dirn_iff]
  refine not_congr ?_
  rcases List.eq_nil_or_concat T with rfl | ⟨T', c, rfl⟩
  · simp
  · rw [List.concat_eq_append] at hT ⊢
    have hT' : ∀ a ∈ T', a ∈ nine := fun a ha => hT a (List.mem_append_left _ ha)
    have hc := hT c (List.mem_append_right _ (List.mem_singleton_self c))
    obtain ⟨q1, q2⟩ := quote_told2 i hi c hc
    rw [List.flatMap_append, List.flatMap_singleton, List.dropLast_append_of_ne_nil q2, List.mem_append, List.dropLast_concat, quote_esc i hi T' hT', mem_bare, mem_bare]
    constructor
    · rintro (⟨h1, h2⟩ | h)
      · exact ⟨⟨List.mem_append_left _ h1, h2⟩, h1⟩
      · exact absurd h q1
    · rintro ⟨⟨_, h2⟩, h1⟩
      exact .inl ⟨h1, h2⟩
end Mine
end
-- PW
section
open PySem PySem.W PyProof.Rows PySem.Spec PySem.Calls
set_option Elab.async false
set_option maxRecDepth 100000
namespace Mine
noncomputable def nb (c : Nat) : Bool := c != 9 && c != 32
noncomputable def N (l : List Nat) : Nat := l.countP nb
theorem N_nil : N [] = 0 := rfl
theorem N_cons (c : Nat) (l : List Nat) : N (c :: l) = N l + (if nb c then 1 else 0) := by unfold N; rw [List.countP_cons]
theorem N_app (a b : List Nat) : N (a ++ b) = N a + N b := List.countP_append
theorem quoted_N : ∀ acc l, N (quoted acc l).1 + N (quoted acc l).2 ≤ N acc + N l := by
  intro acc l
  fun_induction quoted acc l with
  | case1 acc => simp
  | case2 acc => simp [N_cons, N_nil]
  | case3 acc d r ih => simp only [N_cons, N_nil, N_app] at ih ⊢; omega
  | case4 acc r h1 h2 => simp only [N_cons]; omega
  | case5 acc c r h1 h2 hw ih => simp only [N_cons, N_nil, N_app] at ih ⊢; omega
/-- a run without special signs, and what ends it -/
noncomputable def Run (u l r : List Nat) : Prop := (∀ c ∈ u, c ≠ 92 ∧ ws c = false) ∧ (l = u ∧ r = [] ∨ ∃ b, nb b = false ∧ l = u ++ b :: r)
theorem plain_N : ∀ acc l, N (plain acc l).1 + N (plain acc l).2 ≤ N acc + N l ∧ (N (plain acc l).1 + N (plain acc l).2 = N acc + N l → ∃ u, (plain acc l).1 = acc ++ u ∧ Run u l (plain acc l).2) := by
  intro acc l
  fun_induction plain acc l with
  | case1 acc => exact ⟨by simp, fun _ => ⟨[], by simp, by simp, .inl ⟨rfl, rfl⟩⟩⟩
  | case2 acc => exact ⟨by simp [N_cons, N_nil], fun h => by simp [N_cons, N_nil, nb] at h⟩
  | case3 acc d r ih =>
    simp only [N_cons, N_nil, N_app] at ih ⊢
    have h92 : nb 92 = true := rfl
    rw [h92, if_pos rfl]
    refine ⟨by omega, fun h => by omega⟩
  | case4 acc c r h1 h2 hw =>
    simp only [N_cons]
    refine ⟨by omega, fun h => ⟨[], by simp, by simp, .inr ⟨c, ?_, rfl⟩⟩⟩
    cases hb : nb c with
    | false => rfl
    | true => rw [hb, if_pos rfl] at h; omega
  | case5 acc c r h1 h2 hw ih =>
    have hc : c ≠ 92 := by
      rintro rfl
      cases r with
      | nil => exact h1 rfl rfl
      | cons d r => exact h2 d r rfl rfl
    simp only [N_cons, N_nil, N_app] at ih ⊢
    refine ⟨by omega, fun h => ?_⟩
    obtain ⟨u, e, hu, hr⟩ := ih.2 (by omega)
    refine ⟨c :: u, by rw [e]; simp, ?_, ?_⟩
    · intro d hd
      rcases List.mem_cons.mp hd with rfl | hd
      · exact ⟨hc, by simpa using hw⟩
      · exact hu d hd
    · rcases hr with ⟨e1, e2⟩ | ⟨b, hb, e1⟩
      · exact .inl ⟨by rw [e1], e2⟩
      · exact .inr ⟨b, hb, congrArg (c :: ·) e1⟩
theorem tok_N : ∀ l, l ≠ [] → N (tok l).1 + N (tok l).2 ≤ N l ∧ (N (tok l).1 + N (tok l).2 = N l → ∃ p u, (∀ c ∈ p, nb c = false) ∧ (tok l).1 = u ∧ u.head? ≠ some 34 ∧ ((u = [] ∧ l = p ∧ (tok l).2 = []) ∨ (u ≠ [] ∧ ∃ l', l = p ++ l' ∧ Run u l' (tok l).2))) := by
  intro l
  fun_induction tok l with
  | case1 => intro h; exact absurd rfl h
  | case2 => intro _; exact ⟨by simp [N_cons, N_nil], fun h => by simp [N_cons, N_nil, nb] at h⟩
  | case3 d r =>
    intro _
    have := (plain_N [d] r).1
    have h92 : nb 92 = true := rfl
    simp only [N_cons, N_nil] at this ⊢
    rw [h92, if_pos rfl]
    exact ⟨by omega, fun h => by omega⟩
  | case4 c r h1 h2 hw ih =>
    intro _
    by_cases hr : r = []
    · subst hr
      simp only [tok, N_nil, N_cons]
      refine ⟨by omega, fun h => ⟨[c], [], ?_, by simp, by simp, .inl (by simp)⟩⟩
      intro d hd
      rw [List.mem_singleton.mp hd]
      cases hb : nb c with
      | false => rfl
      | true => rw [hb] at h; simp at h
    · obtain ⟨i1, i2⟩ := ih hr
      simp only [N_cons]
      refine ⟨by omega, fun h => ?_⟩
      have hb : nb c = false := by
        cases hb : nb c with
        | false => rfl
        | true => rw [hb, if_pos rfl] at h; omega
      rw [hb] at h
      obtain ⟨p, u, hp, e, hu, hor⟩ := i2 (by simpa using h)
      refine ⟨c :: p, u, ?_, e, hu, ?_⟩
      · intro d hd
        rcases List.mem_cons.mp hd with rfl | hd
        · exact hb
        · exact hp d hd
      · rcases hor with ⟨a1, a2, a3⟩ | ⟨a1, l', a2, a3⟩
        · exact .inl ⟨a1, congrArg (c :: ·) a2, a3⟩
        · exact .inr ⟨a1, l', congrArg (c :: ·) a2, a3⟩
  | case5 r h1 h2 hw =>
    intro _
    have := quoted_N [] r
    have h34 : nb 34 = true := rfl
    simp only [N_cons, N_nil] at this ⊢
    rw [h34, if_pos rfl]
    exact ⟨by omega, fun h => by omega⟩
  | case6 c r h1 h2 hw hq =>
    intro _
    have hc : c ≠ 92 := by
      rintro rfl
      cases r with
      | nil => exact h1 rfl rfl
      | cons d r => exact h2 d r rfl rfl
    obtain ⟨q1, q2⟩ := plain_N [c] r
    simp only [N_cons, N_nil] at q1 q2 ⊢
    refine ⟨by omega, fun h => ?_⟩
    obtain ⟨u, e, hu, hr⟩ := q2 (by omega)
    refine ⟨[], c :: u, by simp, by rw [e]; rfl, by simpa using hq, .inr ⟨by simp, c :: r, rfl, ?_, ?_⟩⟩
    · intro d hd
      rcases List.mem_cons.mp hd with rfl | hd
      · exact ⟨hc, by simpa using hw⟩
      · exact hu d hd
    · rcases hr with ⟨e1, e2⟩ | ⟨b, hb, e1⟩
      · exact .inl ⟨by rw [← e1], e2⟩
      · exact .inr ⟨b, hb, congrArg (c :: ·) e1⟩
theorem nb_iff (c : Nat) : nb c = false ↔ c = 9 ∨ c = 32 := by
  unfold nb
  by_cases h1 : c = 9 <;> by_cases h2 : c = 32 <;> simp [h1, h2]
theorem rep_cons (c : Nat) (r : List Nat) : rep 9 [32] (c :: r) = (if c = 9 then 32 else c) :: rep 9 [32] r := by
  unfold rep; rw [List.flatMap_cons]; split <;> rfl
theorem words_blank {c : Nat} (h : nb c = false) (r : List Nat) : words (c :: r) = words r := by
  have e : (if c = 9 then 32 else c) = 32 := by
    rcases (nb_iff c).mp h with rfl | rfl <;> rfl
  unfold words
  rw [rep_cons, e]
  simp [spl]
theorem words_nil : words [] = [] := rfl
theorem rep_run {u : List Nat} (hu : ∀ c ∈ u, nb c = true) (l : List Nat) : rep 9 [32] (u ++ l) = u ++ rep 9 [32] l := by
  induction u with
  | nil => rfl
  | cons c u ih =>
    have hc := hu c (.head _)
    have h9 : c ≠ 9 := by rintro rfl; cases hc
    rw [List.cons_append, rep_cons, if_neg h9, ih (fun d hd => hu d (.tail _ hd)), List.cons_append]
theorem spl_run {u : List Nat} (hu : ∀ c ∈ u, nb c = true) (z : List Nat) : spl 32 (u ++ 32 :: z) = u :: spl 32 z ∧ spl 32 u = [u] := by
  induction u with
  | nil => simp [spl]
  | cons c u ih =>
    have hc := hu c (.head _)
    have h9 : c ≠ 32 := by rintro rfl; cases hc
    obtain ⟨i1, i2⟩ := ih (fun d hd => hu d (.tail _ hd))
    rw [List.cons_append, spl, if_neg h9, i1, spl, if_neg h9, i2]
    exact ⟨rfl, rfl⟩
theorem S_ne {u : List Nat} (h : u ≠ []) : (S u != S []) = true := by
  rw [S_bne]; simpa using h
theorem words_run {u : List Nat} (hu : ∀ c ∈ u, nb c = true) (h0 : u ≠ []) : words u = [u] ∧ ∀ b r, nb b = false → words (u ++ b :: r) = u :: words r := by
  constructor
  · unfold words
    have := rep_run hu []
    simp only [List.append_nil] at this
    rw [this, show rep 9 [32] ([] : List Nat) = [] from rfl, List.append_nil, (spl_run hu []).2]
    simp [S_ne h0]
  · intro b r hb
    have e : (if b = 9 then 32 else b) = 32 := by
      rcases (nb_iff b).mp hb with rfl | rfl <;> rfl
    unfold words
    rw [rep_run hu, rep_cons, e, (spl_run hu _).1, List.filter_cons, if_pos (S_ne h0)]
theorem words_pre {p : List Nat} (hp : ∀ c ∈ p, nb c = false) (l : List Nat) : words (p ++ l) = words l := by
  induction p with
  | nil => rfl
  | cons c p ih => rw [List.cons_append, words_blank (hp c (.head _)), ih (fun d hd => hp d (.tail _ hd))]
end Mine
end
-- PX
section
open PySem PySem.W PyProof.Rows PySem.Spec PySem.Calls
set_option Elab.async false
set_option maxRecDepth 100000
namespace Mine
noncomputable def full (xs : List (List Nat)) : List (List Nat) := xs.filter (fun x => S x != S [])
noncomputable def sumN (xs : List (List Nat)) : Nat := (xs.map N).sum
noncomputable def Good (W : List Nat) : Prop := (∀ c ∈ W, c ≠ 92 ∧ c ≠ 10 ∧ c ≠ 13) ∧ ∀ w ∈ words W, w.head? ≠ some 34
theorem full_cons (x : List Nat) (xs : List (List Nat)) : full (x :: xs) = if x = [] then full xs else x :: full xs := by
  unfold full
  rw [List.filter_cons]
  by_cases h : x = []
  · subst h; simp
  · rw [if_pos (S_ne h), if_neg h]
theorem sumN_cons (x : List Nat) (xs : List (List Nat)) : sumN (x :: xs) = N x + sumN xs := by simp [sumN]
theorem sumN_full (xs : List (List Nat)) : sumN (full xs) = sumN xs := by
  induction xs with
  | nil => rfl
  | cons x xs ih =>
    rw [full_cons]
    split
    · rename_i h; subst h; rw [ih, sumN_cons, N_nil]; omega
    · rw [sumN_cons, sumN_cons, ih]
theorem toks_le : ∀ (n : Nat) (W : List Nat), W.length ≤ n → sumN (toks W) ≤ N W
  | _, [], _ => by rw [toks_nil]; simp [sumN]
  | 0, _ :: _, h => absurd h (by simp)
  | n + 1, c :: r, h => by
    have hne : c :: r ≠ [] := by simp
    rw [toks_ne hne, sumN_cons]
    have h1 := tok_lt (c :: r) hne
    have h2 := toks_le n (tok (c :: r)).2 (by omega)
    have h3 := (tok_N (c :: r) hne).1
    omega
theorem nb_of_ws {c : Nat} (h : ws c = false) : nb c = true := by
  cases hb : nb c with
  | true => rfl
  | false => rcases (nb_iff c).mp hb with rfl | rfl <;> cases h
theorem ws_not {c : Nat} (h : ws c = false) : c ≠ 10 ∧ c ≠ 13 := ⟨(by rintro rfl; cases h), (by rintro rfl; cases h)⟩
theorem blank_ok {c : Nat} (h : nb c = false) : c ≠ 92 ∧ c ≠ 10 ∧ c ≠ 13 := by
  rcases (nb_iff c).mp h with rfl | rfl <;> decide
theorem toks_eq : ∀ (n : Nat) (W : List Nat), W.length ≤ n → sumN (toks W) = N W → full (toks W) = words W ∧ Good W
  | _, [], _, _ => ⟨by rw [toks_nil]; rfl, by simp, by simp [words_nil]⟩
  | 0, _ :: _, h, _ => absurd h (by simp)
  | n + 1, c :: r, h, hs => by
    have hne : c :: r ≠ [] := by simp
    have h1 := tok_lt (c :: r) hne
    obtain ⟨h3, h4⟩ := tok_N (c :: r) hne
    rw [toks_ne hne, sumN_cons] at hs
    have h2 := toks_le _ (tok (c :: r)).2 (Nat.le_refl _)
    obtain ⟨p, u, hp, e, hu34, hor⟩ := h4 (by omega)
    obtain ⟨i1, i2⟩ := toks_eq n (tok (c :: r)).2 (by omega) (by omega)
    rw [toks_ne hne, full_cons, e, i1]
    clear hs h2 h1 h3 h4 i1 e
    generalize (tok (c :: r)).2 = rest at *
    rcases hor with ⟨rfl, e1, e2⟩ | ⟨hu0, l', e1, hu, hend⟩
    · rw [if_pos rfl, e2, e1]
      have hw : words p = [] := by have := words_pre hp []; rwa [List.append_nil] at this
      refine ⟨by rw [hw]; rfl, fun d hd => blank_ok (hp d hd), by rw [hw]; simp⟩
    · rw [if_neg hu0, e1, words_pre hp]
      have hun : ∀ d ∈ u, nb d = true := fun d hd => nb_of_ws (hu d hd).2
      obtain ⟨w1, w2⟩ := words_run hun hu0
      have huok : ∀ d ∈ u, d ≠ 92 ∧ d ≠ 10 ∧ d ≠ 13 := fun d hd => ⟨(hu d hd).1, ws_not (hu d hd).2⟩
      rcases hend with ⟨q1, q2⟩ | ⟨b, hb, q1⟩
      · rw [q2] at i2 ⊢
        rw [q1, w1, words_nil]
        refine ⟨rfl, ?_, ?_⟩
        · intro d hd
          rcases List.mem_append.mp hd with hd | hd
          · exact blank_ok (hp d hd)
          · exact huok d hd
        · rw [words_pre hp, w1]
          intro w hw
          rw [List.mem_singleton.mp hw]
          exact hu34
      · rw [q1, w2 b _ hb]
        refine ⟨rfl, ?_, ?_⟩
        · intro d hd
          rcases List.mem_append.mp hd with hd | hd
          · exact blank_ok (hp d hd)
          · rcases List.mem_append.mp hd with hd | hd
            · exact huok d hd
            · rcases List.mem_cons.mp hd with rfl | hd
              · exact blank_ok hb
              · exact i2.1 d hd
        · rw [words_pre hp, w2 b _ hb]
          intro w hw
          rcases List.mem_cons.mp hw with rfl | hw
          · exact hu34
          · exact i2.2 w hw
theorem nb_of_blank {c : Nat} (h : ws c = true) (h1 : c ≠ 10) (h2 : c ≠ 13) : nb c = false := by
  rw [nb_iff]
  simp only [ws, List.contains_cons, List.contains_nil, Bool.or_false, Bool.or_eq_true, beq_iff_eq] at h
  omega
theorem plain_good : ∀ (acc l : List Nat), (∀ d ∈ l, d ≠ 92 ∧ d ≠ 10 ∧ d ≠ 13) → N (plain acc l).1 + N (plain acc l).2 = N acc + N l := by
  intro acc l
  fun_induction plain acc l with
  | case1 acc => intro _; rfl
  | case2 acc => intro h; exact absurd rfl (h 92 (.head _)).1
  | case3 acc d r ih => intro h; exact absurd rfl (h 92 (.head _)).1
  | case4 acc c r h1 h2 hw =>
    intro h
    obtain ⟨_, a, b⟩ := h c (.head _)
    rw [N_cons, nb_of_blank hw a b]; simp
  | case5 acc c r h1 h2 hw ih =>
    intro h
    have := ih fun d hd => h d (.tail _ hd)
    simp only [N_cons, N_nil, N_app] at this ⊢
    omega
theorem tw_mem {d : Nat} : ∀ {l : List Nat}, d ∈ l.takeWhile nb → nb d = true
  | [], h => by cases h
  | c :: r, h => by
    rw [List.takeWhile_cons] at h
    split at h
    · rcases List.mem_cons.mp h with rfl | h
      · assumption
      · exact tw_mem h
    · cases h
theorem words_head {c : Nat} (h : nb c = true) (r : List Nat) : ∃ u vs, words (c :: r) = (c :: u) :: vs := by
  have hu : ∀ d ∈ c :: r.takeWhile nb, nb d = true := by
    intro d hd
    rcases List.mem_cons.mp hd with rfl | hd
    · exact h
    · exact tw_mem hd
  obtain ⟨w1, w2⟩ := words_run hu (by simp)
  have e : c :: r = (c :: r.takeWhile nb) ++ r.dropWhile nb := by rw [List.cons_append, List.takeWhile_append_dropWhile]
  cases hv : r.dropWhile nb with
  | nil => rw [hv, List.append_nil] at e; exact ⟨r.takeWhile nb, [], by rw [e]; exact w1⟩
  | cons b v =>
    have hb : nb b = false := by
      have h0 := List.head?_dropWhile_not nb r
      rw [hv] at h0
      simpa using h0
    rw [hv] at e
    exact ⟨r.takeWhile nb, words v, by rw [e]; exact w2 b v hb⟩
theorem tok_good : ∀ l, l ≠ [] → Good l → N (tok l).1 + N (tok l).2 = N l := by
  intro l
  fun_induction tok l with
  | case1 => intro h; exact absurd rfl h
  | case2 => intro _ h; exact absurd rfl (h.1 92 (.head _)).1
  | case3 d r => intro _ h; exact absurd rfl (h.1 92 (.head _)).1
  | case4 c r h1 h2 hw ih =>
    intro _ h
    obtain ⟨_, a, b⟩ := h.1 c (.head _)
    have hb := nb_of_blank hw a b
    rw [N_cons, hb]
    by_cases hr : r = []
    · subst hr; simp [tok, N_nil]
    · rw [ih hr ⟨fun d hd => h.1 d (.tail _ hd), fun w hw => h.2 w (by rw [words_blank hb]; exact hw)⟩]; simp
  | case5 r h1 h2 hw =>
    intro _ h
    obtain ⟨u, vs, e⟩ := words_head (c := 34) rfl r
    exact absurd rfl (h.2 (34 :: u) (by rw [e]; exact .head _))
  | case6 c r h1 h2 hw hq =>
    intro _ h
    have := plain_good [c] r fun d hd => h.1 d (.tail _ hd)
    simp only [N_cons, N_nil] at this ⊢
    omega
theorem toks_good : ∀ (n : Nat) (W : List Nat), W.length ≤ n → Good W → sumN (toks W) = N W
  | _, [], _, _ => by rw [toks_nil]; rfl
  | 0, _ :: _, h, _ => absurd h (by simp)
  | n + 1, c :: r, h, hg => by
    have hne : c :: r ≠ [] := by simp
    have h1 := tok_lt (c :: r) hne
    have h2 := tok_good (c :: r) hne hg
    obtain ⟨p, u, hp, e, hu34, hor⟩ := (tok_N (c :: r) hne).2 h2
    rw [toks_ne hne, sumN_cons, ← h2]
    congr 1
    refine toks_good n _ (by omega) ?_
    clear h2 h1 e
    generalize (tok (c :: r)).2 = rest at *
    have nil : Good [] := ⟨by simp, by simp [words_nil]⟩
    rcases hor with ⟨_, _, rfl⟩ | ⟨hu0, l', e1, hu, hend⟩
    · exact nil
    · have hun : ∀ d ∈ u, nb d = true := fun d hd => nb_of_ws (hu d hd).2
      obtain ⟨w1, w2⟩ := words_run hun hu0
      rcases hend with ⟨_, rfl⟩ | ⟨b, hb, q1⟩
      · exact nil
      · rw [e1, q1] at hg
        refine ⟨fun d hd => hg.1 d (by simp [hd]), fun w hw => hg.2 w ?_⟩
        rw [words_pre hp, w2 b _ hb]
        exact .tail _ hw
theorem words_N : ∀ (n : Nat) (W : List Nat), W.length ≤ n → sumN (words W) = N W
  | _, [], _ => rfl
  | 0, _ :: _, h => absurd h (by simp)
  | n + 1, c :: r, h => by
    simp only [List.length_cons] at h
    cases hc : nb c with
    | false => rw [words_blank hc, words_N n r (by omega), N_cons, hc]; simp
    | true =>
      have hu : ∀ d ∈ c :: r.takeWhile nb, nb d = true := by
        intro d hd
        rcases List.mem_cons.mp hd with rfl | hd
        · exact hc
        · exact tw_mem hd
      obtain ⟨w1, w2⟩ := words_run hu (by simp)
      have e : c :: r = (c :: r.takeWhile nb) ++ r.dropWhile nb := by rw [List.cons_append, List.takeWhile_append_dropWhile]
      have hl := congrArg List.length e
      cases hv : r.dropWhile nb with
      | nil =>
        rw [hv, List.append_nil] at e
        rw [e, w1]; simp [sumN]
      | cons b v =>
        have hb : nb b = false := by
          have h0 := List.head?_dropWhile_not nb r
          rw [hv] at h0
          simpa using h0
        rw [hv] at e hl
        simp only [List.length_cons, List.length_append] at hl
        rw [e, w2 b v hb, sumN_cons, words_N n v (by omega), N_app, N_cons b, hb]; simp
/-- the lexer's words are the words at blanks and tabs if and only if no special sign stands -/
theorem toks_words (W : List Nat) : full (toks W) = words W ↔ Good W := by
  constructor
  · intro h
    refine (toks_eq _ W (Nat.le_refl _) ?_).2
    rw [← sumN_full, h, words_N _ W (Nat.le_refl _)]
  · intro h
    exact (toks_eq _ W (Nat.le_refl _) (toks_good _ W (Nat.le_refl _) h)).1
end Mine
end
-- PY
section
open PySem PySem.W PyProof.Rows PySem.Spec PySem.Calls
set_option Elab.async false
set_option maxRecDepth 100000
namespace Mine
theorem split_run {c : Nat} (hc : nb c = true) (r : List Nat) : ∃ u v, c :: r = (c :: u) ++ v ∧ (∀ d ∈ c :: u, nb d = true) ∧ (v = [] ∨ ∃ b v', v = b :: v' ∧ nb b = false) := by
  refine ⟨r.takeWhile nb, r.dropWhile nb, by rw [List.cons_append, List.takeWhile_append_dropWhile], ?_, ?_⟩
  · intro d hd
    rcases List.mem_cons.mp hd with rfl | hd
    · exact hc
    · exact tw_mem hd
  · cases hv : r.dropWhile nb with
    | nil => exact .inl rfl
    | cons b v =>
      refine .inr ⟨b, v, rfl, ?_⟩
      have h0 := List.head?_dropWhile_not nb r
      rw [hv] at h0
      simpa using h0
theorem words_map (f : Nat → List Nat) : ∀ (n : Nat) (T : List Nat), T.length ≤ n → (∀ c ∈ T, (nb c = false → f c = [c]) ∧ (nb c = true → f c ≠ [] ∧ ∀ d ∈ f c, nb d = true)) →
    words (T.flatMap f) = (words T).map (·.flatMap f)
  | _, [], _, _ => by simp [words_nil]
  | 0, _ :: _, h, _ => absurd h (by simp)
  | n + 1, c :: r, h, hf => by
    simp only [List.length_cons] at h
    cases hc : nb c with
    | false =>
      rw [List.flatMap_cons, (hf c (.head _)).1 hc, List.singleton_append, words_blank hc, words_blank hc]
      exact words_map f n r (by omega) fun d hd => hf d (.tail _ hd)
    | true =>
      obtain ⟨u, v, e, hu, hv⟩ := split_run hc r
      have hl := congrArg List.length e
      rw [e] at hf ⊢
      have hun : ∀ d ∈ (c :: u).flatMap f, nb d = true := by
        intro d hd
        obtain ⟨a, ha, hda⟩ := List.mem_flatMap.mp hd
        exact ((hf a (List.mem_append_left _ ha)).2 (hu a ha)).2 d hda
      have hu0 : (c :: u).flatMap f ≠ [] := by
        rw [List.flatMap_cons]
        intro e0
        exact ((hf c (by simp)).2 hc).1 (List.append_eq_nil_iff.mp e0).1
      obtain ⟨w1, w2⟩ := words_run hu (by simp)
      obtain ⟨y1, y2⟩ := words_run hun hu0
      rw [List.flatMap_append]
      rcases hv with rfl | ⟨b, v', rfl, hb⟩
      · simp only [List.flatMap_nil, List.append_nil]
        rw [y1, w1]; rfl
      · have e5 : (b :: v').flatMap f = b :: v'.flatMap f := by rw [List.flatMap_cons, (hf b (by simp)).1 hb]; rfl
        rw [e5, y2 b _ hb, w2 b _ hb, List.map_cons]
        congr 1
        simp only [List.length_append, List.length_cons] at hl
        exact words_map f n v' (by omega) fun d hd => hf d (by simp [hd])
theorem words_mem : ∀ (n : Nat) (W : List Nat), W.length ≤ n → ∀ w ∈ words W, w ≠ [] ∧ ∀ c ∈ w, c ∈ W
  | _, [], _ => by simp [words_nil]
  | 0, _ :: _, h => absurd h (by simp)
  | n + 1, c :: r, h => by
    simp only [List.length_cons] at h
    cases hc : nb c with
    | false =>
      rw [words_blank hc]
      intro w hw
      obtain ⟨a, b⟩ := words_mem n r (by omega) w hw
      exact ⟨a, fun d hd => .tail _ (b d hd)⟩
    | true =>
      obtain ⟨u, v, e, hu, hv⟩ := split_run hc r
      have hl := congrArg List.length e
      rw [e]
      obtain ⟨w1, w2⟩ := words_run hu (by simp)
      rcases hv with rfl | ⟨b, v', rfl, hb⟩
      · rw [List.append_nil, w1]
        intro w hw
        rw [List.mem_singleton.mp hw]
        exact ⟨by simp, fun _ h => h⟩
      · rw [w2 b _ hb]
        simp only [List.length_append, List.length_cons] at hl
        intro w hw
        rcases List.mem_cons.mp hw with rfl | hw
        · exact ⟨by simp, fun d hd => List.mem_append_left _ hd⟩
        · obtain ⟨a, b'⟩ := words_mem n v' (by omega) w hw
          exact ⟨a, fun d hd => List.mem_append_right _ (.tail _ (b' d hd))⟩
theorem sign_told : ∀ i < 6, ∀ a ∈ nine, ∀ c ∈ ([92, 10, 13, 34] : List Nat), (c ∈ told i a ↔ a = c ∧ ((tbl i).lookup c).isNone) := by decide +kernel
theorem sign_esc (i : Nat) (hi : i < 6) (T : List Nat) (hT : ∀ c ∈ T, c ∈ nine) (c : Nat) (hc : c ∈ ([92, 10, 13, 34] : List Nat)) : c ∈ T.flatMap (told i) ↔ c ∈ bareOf i T := by
  rw [mem_bare, List.mem_flatMap]
  constructor
  · rintro ⟨a, ha, h⟩
    obtain ⟨rfl, h2⟩ := (sign_told i hi a (hT a ha) c hc).mp h
    exact ⟨ha, h2⟩
  · rintro ⟨ha, h⟩
    exact ⟨c, ha, (sign_told i hi c (hT c ha) c hc).mpr ⟨rfl, h⟩⟩
noncomputable def bareOk (i a : Nat) : Bool := !((tbl i).lookup 34).isNone || ((nb a || told i a == [a]) && (!nb a || (!(told i a).isEmpty && (told i a).all nb)) && (((told i a).head? == some 34) == (a == 34)))
theorem bareOk_all : ∀ i < 6, ∀ a ∈ nine, bareOk i a = true := by decide +kernel
theorem bare_told (i : Nat) (hi : i < 6) (hb : ((tbl i).lookup 34).isNone = true) (a : Nat) (ha : a ∈ nine) : (nb a = false → told i a = [a]) ∧ (nb a = true → told i a ≠ [] ∧ ∀ d ∈ told i a, nb d = true) ∧ ((told i a).head? = some 34 ↔ a = 34) := by
  have h := bareOk_all i hi a ha
  unfold bareOk at h
  rw [hb] at h
  simp only [Bool.not_true, Bool.false_or, Bool.and_eq_true] at h
  obtain ⟨⟨h1, h2⟩, h3⟩ := h
  refine ⟨fun e => by rw [e] at h1; simpa using h1, fun e => ?_, ?_⟩
  · rw [e] at h2
    simp only [Bool.not_true, Bool.false_or, Bool.and_eq_true, List.all_eq_true] at h2
    exact ⟨by intro e0; rw [e0] at h2; simp at h2, h2.2⟩
  · have h4 := eq_of_beq h3
    constructor
    · intro e; rw [e] at h4; simpa using h4.symm
    · intro e; subst e; simpa using h4
/-- the lexer's words are the formatter's if and only if the hand leaves bare nothing that the lexer reads otherwise -/
theorem law_lexer (i : Nat) (hi : i < 6) (T : List Nat) (hT : ∀ c ∈ T, c ∈ nine) :
    full (toks (T.flatMap (told i))) = words (T.flatMap (told i)) ↔
      ¬ (92 ∈ bareOf i T ∨ 10 ∈ bareOf i T ∨ 13 ∈ bareOf i T) ∧ ¬ (34 ∈ bareOf i T ∧ ∃ w ∈ words T, w.head? = some 34) := by
  rw [toks_words, Good]
  have e92 := sign_esc i hi T hT 92 (by decide)
  have e10 := sign_esc i hi T hT 10 (by decide)
  have e13 := sign_esc i hi T hT 13 (by decide)
  have e34 := sign_esc i hi T hT 34 (by decide)
  have h1 : (∀ c ∈ T.flatMap (told i), c ≠ 92 ∧ c ≠ 10 ∧ c ≠ 13) ↔ ¬ (92 ∈ bareOf i T ∨ 10 ∈ bareOf i T ∨ 13 ∈ bareOf i T) := by
    rw [← e92, ← e10, ← e13]
    constructor
    · rintro h (a | a | a)
      · exact (h _ a).1 rfl
      · exact (h _ a).2.1 rfl
      · exact (h _ a).2.2 rfl
    · intro h c hc
      refine ⟨?_, ?_, ?_⟩ <;> rintro rfl <;> exact h (by simp [hc])
  have h2 : (∀ w ∈ words (T.flatMap (told i)), w.head? ≠ some 34) ↔ ¬ (34 ∈ bareOf i T ∧ ∃ w ∈ words T, w.head? = some 34) := by
    by_cases hb : ((tbl i).lookup 34).isNone = true
    · rw [words_map (told i) _ T (Nat.le_refl _) fun c hc => ⟨(bare_told i hi hb c (hT c hc)).1, (bare_told i hi hb c (hT c hc)).2.1⟩]
      have hh : ∀ w ∈ words T, ((w.flatMap (told i)).head? = some 34 ↔ w.head? = some 34) := by
        intro w hw
        obtain ⟨hw0, hwT⟩ := words_mem _ T (Nat.le_refl _) w hw
        cases w with
        | nil => exact absurd rfl hw0
        | cons a w =>
          have ha := hT a (hwT a (.head _))
          obtain ⟨b1, b2, b3⟩ := bare_told i hi hb a ha
          have hne : told i a ≠ [] := (quote_told2 i hi a ha).2
          rw [List.flatMap_cons]
          cases ht : told i a with
          | nil => exact absurd ht hne
          | cons y ys => rw [ht] at b3; simpa using b3
      constructor
      · rintro h ⟨_, w, hw, h34⟩
        exact h (w.flatMap (told i)) (List.mem_map_of_mem hw) ((hh w hw).mpr h34)
      · intro h w' hw' h34
        obtain ⟨w, hw, rfl⟩ := List.mem_map.mp hw'
        have h5 := (hh w hw).mp h34
        refine h ⟨(mem_bare i 34 T).mpr ⟨(words_mem _ T (Nat.le_refl _) w hw).2 34 ?_, hb⟩, w, hw, h5⟩
        cases w with
        | nil => cases h5
        | cons a w => simp only [List.head?_cons, Option.some.injEq] at h5; rw [h5]; exact .head _
    · refine ⟨fun _ h => hb ((mem_bare i 34 T).mp h.1).2, fun _ w hw h34 => ?_⟩
      have hm := (words_mem _ _ (Nat.le_refl _) w hw).2 34 (by
        cases w with
        | nil => cases h34
        | cons a w => simp only [List.head?_cons, Option.some.injEq] at h34; rw [h34]; exact .head _)
      exact hb ((mem_bare i 34 T).mp (e34.mp hm)).2
  rw [h1, h2]
end Mine
end
-- PZ
section
open PySem PySem.W PyProof.Rows PySem.Spec PySem.Calls
set_option Elab.async false
set_option maxRecDepth 100000
namespace Mine
noncomputable abbrev dbl (X : List Nat) : List Nat := rep 92 [92, 92] X
theorem dbl_c {c : Nat} (h : c ≠ 92) (r : List Nat) : dbl (c :: r) = c :: dbl r := by
  unfold dbl rep; rw [List.flatMap_cons, if_neg h]; rfl
theorem dbl_b (r : List Nat) : dbl (92 :: r) = 92 :: 92 :: dbl r := by
  unfold dbl rep; rw [List.flatMap_cons, if_pos rfl]; rfl
theorem nl_cons (c : Nat) (l : List Nat) : nl (c :: l) = nl l + (if c = 10 then 1 else 0) := by
  unfold nl; rw [List.count_cons]; by_cases h : c = 10 <;> simp [h]
theorem spl_c {c : Nat} (h : c ≠ 34) {z p : List Nat} {ps : List (List Nat)} (e : spl 34 z = p :: ps) : spl 34 (c :: z) = (c :: p) :: ps := by
  rw [spl, if_neg h, e]
theorem spl_q (z : List Nat) : spl 34 (34 :: z) = [] :: spl 34 z := by rw [spl, if_pos rfl]
theorem quoted_dirn : ∀ (n : Nat) (X acc : List Nat), X.length ≤ n → ∃ p ps, spl 34 (dirn X) = p :: ps ∧ (quoted acc (dbl X)).1 = acc ++ p ∧
    toksN ps.length (quoted acc (dbl X)).2 = ps ∧ nl (dbl X) = nl (dirn X) + nl (restN ps.length (quoted acc (dbl X)).2)
  | _, [], acc, _ => ⟨[], [], by rw [dirn]; rfl, by simp [rep, quoted], by simp [toksN], by simp [dirn, rep, quoted, restN, nl]⟩
  | 0, _ :: _, _, h => absurd h (by simp)
  | n + 1, c :: r, acc, h => by
    simp only [List.length_cons] at h
    by_cases h34 : c = 34
    · subst h34
      rw [dbl_c (by decide), quoted_c _ _ (by decide), if_pos rfl]
      have one : dirn (34 :: r) = [] → ∃ p ps, spl 34 (dirn (34 :: r)) = p :: ps ∧ (acc, dbl r).1 = acc ++ p ∧ toksN ps.length (acc, dbl r).2 = ps ∧ nl (34 :: dbl r) = nl (dirn (34 :: r)) + nl (restN ps.length (acc, dbl r).2) := by
        intro e
        rw [e]
        exact ⟨[], [], rfl, by simp, rfl, by rw [nl_cons]; simp [restN, nl]⟩
      cases r with
      | nil => exact one (by simp [dirn])
      | cons d r =>
        by_cases hd : d = 34
        · subst hd
          simp only [List.length_cons] at h
          obtain ⟨p, ps, e1, e2, e3, e4⟩ := quoted_dirn n r [] (by omega)
          have et : tok (34 :: dbl r) = quoted [] (dbl r) := by rw [tok_c _ (by decide)]; rfl
          rw [dirn_q2, spl_q, e1, dbl_c (by decide)]
          refine ⟨[], p :: ps, rfl, by simp, ?_, ?_⟩
          · simp only [List.length_cons, toksN]
            rw [et, e2, e3]; rfl
          · simp only [List.length_cons, restN]
            rw [et, nl_cons, nl_cons, nl_cons, e4]; simp
        · exact one (dirn_q3 _ hd)
    · rw [dirn_c _ h34]
      by_cases h92 : c = 92
      · subst h92
        obtain ⟨p, ps, e1, e2, e3, e4⟩ := quoted_dirn n r (acc ++ [92]) (by omega)
        rw [dbl_b, quoted_b2]
        refine ⟨92 :: p, ps, spl_c (by decide) e1, by rw [e2]; simp, e3, ?_⟩
        rw [nl_cons, nl_cons, nl_cons, e4]; simp
      · obtain ⟨p, ps, e1, e2, e3, e4⟩ := quoted_dirn n r (acc ++ [c]) (by omega)
        rw [dbl_c h92, quoted_c _ _ h92, if_neg h34]
        refine ⟨c :: p, ps, spl_c h34 e1, by rw [e2]; simp, e3, ?_⟩
        rw [nl_cons, nl_cons, e4]; omega
/-- the lexer reads parse257's reply, its backslashes doubled -/
theorem law_name (X : List Nat) :
    toksN (1 + (spl 34 (dirn X)).length) (dbl ([50, 53, 55, 32, 34] ++ X)) = [50, 53, 55] :: spl 34 (dirn X) ∧
    1 + nl (dbl ([50, 53, 55, 32, 34] ++ X)) - nl (restN (1 + (spl 34 (dirn X)).length) (dbl ([50, 53, 55, 32, 34] ++ X))) = 1 + nl (dirn X) := by
  obtain ⟨p, ps, e1, e2, e3, e4⟩ := quoted_dirn _ X [] (Nat.le_refl _)
  have ed : dbl ([50, 53, 55, 32, 34] ++ X) = 50 :: 53 :: 55 :: 32 :: 34 :: dbl X := by
    simp only [List.cons_append, List.nil_append]
    rw [dbl_c (by decide), dbl_c (by decide), dbl_c (by decide), dbl_c (by decide), dbl_c (by decide)]
  have et1 : tok (50 :: 53 :: 55 :: 32 :: 34 :: dbl X) = ([50, 53, 55], 34 :: dbl X) := by
    rw [tok_c _ (by decide), if_neg (by decide), if_neg (by decide), plain_c _ _ (by decide), if_neg (by decide), plain_c _ _ (by decide), if_neg (by decide), plain_c _ _ (by decide), if_pos (by decide)]; rfl
  have et2 : tok (34 :: dbl X) = quoted [] (dbl X) := by rw [tok_c _ (by decide)]; rfl
  rw [ed, e1, Nat.add_comm 1]
  simp only [List.length_cons, toksN, restN]
  rw [et1]
  simp only []
  rw [et2, e2, e3]
  refine ⟨rfl, ?_⟩
  simp only [nl_cons]
  rw [e4]
  simp
  omega
end Mine
end
-- LF
section
open PySem PySem.W PyProof.Rows PySem.Spec PySem.Calls
set_option Elab.async false
set_option maxRecDepth 100000
set_option maxHeartbeats 4000000
namespace Mine
section
variable {prog : Program} {w : World} {A : Around}
structure TurnEnd (h₀ : Heap) (L : Addr) (d : Drawn) (os : OsState) (I : Addr) (oI : Obj) (J : List (Addr × Obj) → Array GenState → Nat → Prop) (f : Flow) (s : Shared) : Prop where
  ex : f = .next ∧ ∃ h g tk nw m, s = ⟨h, g, d, tk, os⟩ ∧ Fr h₀ L h m ∧ News h₀ L h ((I, oI) :: nw) ∧ J nw g tk ∧ (∀ p ∈ nw, p.1 ≠ I)
theorem ints_at {vs : List Value} {xs : List Int} (h : IntsAre vs xs) : ∀ {i : Nat} {v : Value}, vs[i]? = some v → ∃ x t, v = .int x t := by
  induction h with
  | nil => intro i v e; simp at e
  | cons _ _ _ ih =>
    intro i v e
    cases i with
    | zero => simp at e; exact ⟨_, _, e.symm⟩
    | succ i => simp at e; exact ih e
theorem int_turns {env : Env} {x : Str} {px : Pos} {body : List Stmt} {D : Addr} {ws : List Value} {n : Nat} {xs : List Int} {R : Result → Shared → Prop} {h₀ : Heap} {d : Drawn} {os : OsState}
    (hh : A.handled = none) (hx : env.kindOf x = some .local) (hp : (env.scope.kind == .class || (env.scope.kind == .module && env.locals != env.globals)) = false) (hI : IntsAre ws xs)
    (J : List (Addr × Obj) → Array GenState → Nat → Prop) (hJ : ∀ nw g tk, J nw g tk → (D, listOf ws.toArray n) ∈ nw) (hJt : ∀ nw g tk tk', J nw g tk → tk ≤ tk' → J nw g tk')
    (step : ∀ (v : Int) (t : Tok) nw g h tk (m : Str → Option Value) I oI (E' : Value → Shared → Prop), J nw g tk → Fr h₀ env.locals h (fun y => if y = x then some (.int v t) else m y) → News h₀ env.locals h ((I, oI) :: nw) → (∀ p ∈ nw, p.1 ≠ I) → (∃ i : Nat, oI.data = .fields #[.ref D, .int i 0]) →
      wpAny (model prog w) A (execs body env) (TurnEnd h₀ env.locals d os I oI J) E' ⟨h, g, d, tk, os⟩)
    (hR : ∀ h g tk nw m, J nw g tk → Fr h₀ env.locals h m → News h₀ env.locals h nw → R (.ok .next) ⟨h, g, d, tk, os⟩)
    {h : Heap} {g : Array GenState} {tk : Nat} {nw : List (Addr × Obj)} {m0 : Str → Option Value} (J0 : J nw g tk) (F : Fr h₀ env.locals h m0) (N : News h₀ env.locals h nw) :
    wpAny (model prog w) A (pyIter (.ref D)) (fun it s' => codeAny (model prog w) A (.forLoop (.Name x px) it body [] env) R s') E ⟨h, g, d, tk, os⟩ := by
  have gD := N _ (hJ _ _ _ J0)
  refine wpAny_pyIter_list (items := ws.toArray) ⟨_, gD.1, rfl, n, rfl⟩ ?_
  dsimp only
  have F1 := Fr.push F { cls := .type "list_iterator", data := .fields #[.ref D, .int 0 0] }
  have N1 := News.push F N { cls := .type "list_iterator", data := .fields #[.ref D, .int 0 0] } rfl
  have off1 : ∀ p ∈ nw, p.1 ≠ h.objs.size := fun p hp => Nat.ne_of_lt (Heap.lt_size (N p hp).1)
  generalize Heap.push _ _ = h1 at F1 N1 ⊢
  generalize h.objs.size = I at N1 off1 ⊢
  have hIL : I ≠ env.locals ∧ h₀.get? I = none := (N1 (I, _) (.head _)).2
  refine codeAny_forLoop_any (fun k s' => ∃ i oI h g tk nw m, (oI.cls = .type "list_iterator" ∧ oI.data = .fields #[.ref D, .int (i : Nat) 0]) ∧ s' = ⟨h, g, d, tk, os⟩ ∧ k = ws.length - i ∧ J nw g tk ∧ Fr h₀ env.locals h m ∧ News h₀ env.locals h ((I, oI) :: nw) ∧ (∀ p ∈ nw, p.1 ≠ I)) ?_ ws.length
    ⟨0, _, h1, g, tk, nw, m0, ⟨rfl, rfl⟩, rfl, rfl, J0, F1, N1, off1⟩
  clear J0 F N F1 N1 off1 gD
  rintro k s' ⟨i, oI, h, g, tk, nw, m, hoI, rfl, rfl, hj, F, N, off⟩
  have gI := N (I, _) (.head _)
  have gl := N (D, _) (.tail _ (hJ _ _ _ hj))
  have hit : h.IsListIter I D i := ⟨_, gI.1, hoI⟩
  have hSq : SeqAt h D ws.toArray := ⟨_, n, gl.1, rfl⟩
  by_cases hlt : i < ws.length
  · obtain ⟨v, hv⟩ : ∃ v, ws[i]? = some v := ⟨_, List.getElem?_eq_getElem hlt⟩
    obtain ⟨z, t, rfl⟩ := ints_at hI hv
    refine next_item hit hSq (by simpa using hv) fun h2 hit2 hs2 => ?_
    dsimp only
    refine wpAny_of_eq (a := ()) rfl ?_
    obtain ⟨oI2, e2, hc2, hd2⟩ := hit2
    have hk : ∀ c o, c ∉ [I] → h.get? c = some o → h2.get? c = some o := fun c o hc e => hs2.extBut c o (fun x => hc (by simp [x])) e
    have F2 := fr_step [I] F hk (fun c hc => by rw [List.mem_singleton.mp hc]; exact hIL)
    have N2 := news_step [I] (news_sub N fun p hp => .tail _ hp) hk (fun p hp hm => off p hp (List.mem_singleton.mp hm))
    refine wpAny_assign_Name (wpAny_storeName_local hx F2.ns (fun h3 hn3 hs3 => ?_) hp)
    have hk3 : ∀ c o, c ≠ env.locals → h2.get? c = some o → h3.get? c = some o := fun c o hc e => hs3.extBut c o hc e
    have F3 := fr_set F2 hn3 hk3
    have N3 : News h₀ env.locals h3 ((I, oI2) :: nw) := news_set' (fun p hp => by
      rcases List.mem_cons.mp hp with rfl | hp
      · exact ⟨e2, hIL⟩
      · exact N2 p hp) hk3
    refine wpAny_mono (step z t nw g h3 _ _ I oI2 _ (hJt _ _ _ _ hj (Nat.le_add_right _ _)) F3 N3 off ⟨_, hd2⟩) ?_ (fun _ _ x => x)
    rintro f s3 ⟨rfl, h4, g4, tk4, nw4, m4, rfl, F4, N4, J4, off4⟩
    dsimp only
    exact ⟨ws.length - (i + 1), by omega, i + 1, oI2, h4, g4, tk4, nw4, m4, ⟨hc2, hd2⟩, rfl, rfl, J4, F4, N4, off4⟩
  · refine next_end hh hit hSq (by simpa using Nat.not_lt.mp hlt) fun h2 he2 => ?_
    dsimp only
    have hk : ∀ c o, c ∉ [I] → h.get? c = some o → h2.get? c = some o := fun c o hc e => he2 c o (fun x => hc (by simp [x])) e
    have F2 := fr_step [I] F hk (fun c hc => by rw [List.mem_singleton.mp hc]; exact hIL)
    have N2 := news_step [I] (news_sub N fun p hp => .tail _ hp) hk (fun p hp hm => off p hp (List.mem_singleton.mp hm))
    rw [execs_nil]
    exact wpAny_pure (hR _ _ _ _ _ hj F2 N2)
end
end Mine
end
-- CH
section
open PySem PySem.W PyProof.Rows PySem.Spec PySem.Calls PyProof.Rows.LCg
set_option Elab.async false
set_option maxRecDepth 100000
set_option maxHeartbeats 4000000
namespace Mine
section
variable {prog : Program} {w : World} {A : Around} {E : Value → Shared → Prop} {s : Shared}
variable {h₀ : Heap} {L : Addr} {m : Str → Option Value} {env : Env}
/-- one turn over a sign -/
noncomputable def ChStep (prog : Program) (w : World) (A : Around) (h₀ : Heap) (L : Addr) (m : Str → Option Value) (env : Env) (elt : PySem.Expr) (ifs : List PySem.Expr) (a : Str) (scope : Scope) (cl : List (Str × Addr)) (s : Shared) (S' : List (Addr × Obj) → Prop) (J : List Nat → List Value → List (Addr × Obj) → Prop) (xs : List Nat) : Prop :=
  ∀ done c r ys news (t : Tok) I oI C oC D m₂ h tk (E' : Value → Shared → Prop), done ++ c :: r = xs → J done ys news → S' news → ys.length ≤ done.length → NsObj oC m₂ → m₂ a = some (.str (S [c]) t) → Fr h₀ L h m → News h₀ L h ((I, oI) :: (C, oC) :: (D, lst ys) :: news) → Off3 I C D news → ((@Ne Nat I C) ∧ (@Ne Nat I D) ∧ (@Ne Nat C D)) →
    wpAny (model prog w) A (forIn ifs true fun c r => if r = true then do let ok ← isTrue c (compEnvC scope cl C env) (eval c (compEnvC scope cl C env)); pure (ForInStep.yield ok) else pure (ForInStep.yield r)) (fun ok s₃ =>
      if ok = true then wpAny (model prog w) A (eval elt (compEnvC scope cl C env)) (CompEnd h₀ L m { s with heap := h, toks := tk } I oI C oC D (lst ys) S' (fun y news' => J (done ++ [c]) (ys ++ [y]) news')) E' s₃
      else CompEnd h₀ L m { s with heap := h, toks := tk } I oI C oC D (lst ys) S' (fun _ news' => J (done ++ [c]) ys news') .none s₃) E' { s with heap := h, toks := tk }
theorem ch_block {elt iter : PySem.Expr} {ifs : List PySem.Expr} {a : Str} {pa : Pos} {scope : Scope} {cl : List (Str × Addr)} {pos : Pos} {s₂ : Shared} {I : Addr} {oI : Obj} {xs : List Nat} {tx : Tok} {news : List (Addr × Obj)}
    {S' : List (Addr × Obj) → Prop} {J : List Nat → List Value → List (Addr × Obj) → Prop} {RR : Value → Addr → Result → Shared → Prop}
    (hh : A.handled = none) (hsz : xs.length ≤ 1000)
    (hc : oI.cls = .type "str_ascii_iterator") (hd : oI.data = .fields #[.str (S xs) tx, .int (0 : Nat) 0])
    (hcell : ∀ y ∈ scope.names, y.2 ≠ .cell) (hkind : scope.kind = .function) (hxa : scope.names.lookup a = some .local)
    (F : Fr h₀ L s₂.heap m) (N : News h₀ L s₂.heap ((I, oI) :: news)) (off : ∀ p ∈ news, p.1 ≠ I) (hS0 : S' news) (hJ0 : J [] [] news)
    (R : ChStep prog w A h₀ L m env elt ifs a scope cl s₂ S' J xs)
    (hRR : ∀ D C h tk m' ys news', D = s₂.heap.objs.size → Fr h₀ L h m → News h₀ L h ((D, lst ys) :: news') → Off1 D news' → h.Ns C m' → h₀.get? C = none → h₀.get? D = none → C ≠ L → D ≠ L → C ≠ D → (∀ p ∈ news', p.1 ≠ C) → J xs ys news' → S' news' → RR (.ref D) C (.ok .next) { s₂ with heap := h, toks := tk }) :
    wpAny (model prog w) A (newList []) (fun acc s₃ => wpAny (model prog w) A (newFunctionEnv scope env.globals cl [] env.qual none .none (some env)) (fun cenv s₄ =>
      codeAny (model prog w) A (.compStart (.ListComp elt [⟨.Name a pa, iter, ifs, 0⟩] scope pos) 0 (.ref I) acc { cenv with scope := relabel scope env }) (RR acc cenv.locals) s₄) E s₃) E s₂ := by
  refine wpAny_newObj_type (wpAny_newFunctionEnv hcell (by intro y hy; simp at hy) (fun h₁ hns₁ hsb₁ => ?_) hkind)
  dsimp only at hns₁ hsb₁ ⊢
  generalize hH2 : s₂.heap.push { cls := .type "list", dict := none, data := .seq ([] : List Value).toArray } = H2 at hns₁ hsb₁ ⊢
  have hC : H2.objs.size = s₂.heap.objs.size + 1 := by rw [← hH2, Heap.size_push]
  have hDC : s₂.heap.objs.size ≠ H2.objs.size := by rw [hC]; exact Nat.ne_of_lt (Nat.lt_succ_self _)
  have below : ∀ b, b < s₂.heap.objs.size → b ≠ H2.objs.size ∧ b ≠ s₂.heap.objs.size := fun b hb => ⟨by rw [hC]; exact Nat.ne_of_lt (Nat.lt_succ_of_lt hb), Nat.ne_of_lt hb⟩
  have zI := N (I, oI) (.head _)
  have hIlt : I < s₂.heap.objs.size := Heap.lt_size zI.1
  have hIL : L ≠ I := Ne.symm zI.2.1
  have hI₀ := zI.2.2
  have old : ∀ b o, s₂.heap.get? b = some o → h₁.get? b = some o := fun b o e => hsb₁.extBut b o (below b (Heap.lt_size e)).1 (Heap.get?_push_of_some _ (hH2 ▸ Heap.get?_push_of_some _ e))
  have hacc : h₁.get? s₂.heap.objs.size = some (lst []) := hsb₁.extBut _ _ hDC (Heap.get?_push_of_some _ (hH2 ▸ Heap.get?_push_size _ rfl))
  have hit₁ : h₁.IsStrIter I "str_ascii_iterator" (S xs) tx 0 := ⟨_, old _ _ zI.1, hc, hd⟩
  have fresh : ∀ a, s₂.heap.objs.size ≤ a → s₂.heap.get? a = none := fun a ha => by
    cases e : s₂.heap.get? a with
    | none => rfl
    | some o' => exact absurd (Heap.lt_size e) (Nat.not_lt.mpr ha)
  have fresh₀ : ∀ a, s₂.heap.objs.size ≤ a → h₀.get? a = none := fun a ha => by
    cases e : h₀.get? a with
    | none => rfl
    | some o' => have := F.keep a o' e; rw [fresh a ha] at this; cases this
  have hD₀ : h₀.get? s₂.heap.objs.size = none := fresh₀ _ (Nat.le_refl _)
  have hC₀ : h₀.get? H2.objs.size = none := fresh₀ _ (by rw [hC]; exact Nat.le_succ _)
  have hLlt : L < s₂.heap.objs.size := F.ns.lt
  have hDL : s₂.heap.objs.size ≠ L := Ne.symm (below L hLlt).2
  have hCL : H2.objs.size ≠ L := Ne.symm (below L hLlt).1
  have hCI : I ≠ H2.objs.size := (below I hIlt).1
  have hDI : I ≠ s₂.heap.objs.size := (below I hIlt).2
  have N0 : News h₀ L s₂.heap news := news_sub N fun p hp => .tail _ hp
  have off₀ : Off3 I H2.objs.size s₂.heap.objs.size news := Off3.of fun p hp => ⟨off p hp, (below _ (Heap.lt_size (N0 p hp).1)).1, (below _ (Heap.lt_size (N0 p hp).1)).2⟩
  have loop : ∀ s₃ : Shared, s₃ = { s₂ with heap := h₁, toks := s₂.toks + ([] : List (Str × Value)).length } →
      codeAny (model prog w) A (.compLoop (.ListComp elt [⟨.Name a pa, iter, ifs, 0⟩] scope pos) 0 (.ref I) (.ref s₂.heap.objs.size) (compEnvC scope cl H2.objs.size env))
        (RR (.ref s₂.heap.objs.size) H2.objs.size) s₃ := by
    rintro s₃ rfl
    refine pc_loop
      (fun k s' => ∃ h' tk i ys m' news' done, s' = { s₂ with heap := h', toks := tk } ∧ done ++ xs.drop i = xs ∧ done.length = i ∧ k = xs.length + 1 - i ∧ ys.length ≤ done.length ∧ h'.IsStrIter I "str_ascii_iterator" (S xs) tx i ∧ Fr h₀ L h' m ∧ h'.Ns H2.objs.size m' ∧
        News h₀ L h' ((s₂.heap.objs.size, lst ys) :: news') ∧ Off3 I H2.objs.size s₂.heap.objs.size news' ∧ S' news' ∧ J done ys news') ?_ (xs.length + 1)
      ⟨h₁, _, 0, [], _, news, [], rfl, rfl, rfl, rfl, Nat.le_refl _, hit₁, F.keeps old, hns₁, fun p hp => ?_, off₀, hS0, hJ0⟩
    · rintro k s' ⟨h', tk, i, ys, m', news', done, rfl, hdone, hdl, rfl, hyl, hit', F', hn', N', off', hS', J'⟩
      have off3 := off'.mem
      have hxl := congrArg List.length hdone
      rw [List.length_append, List.length_drop] at hxl
      have Nn : News h₀ L h' news' := news_sub N' fun p hp => .tail _ hp
      by_cases hlt : i < xs.length
      · obtain ⟨c, hpq⟩ : ∃ p, xs[i]? = some p := ⟨_, List.getElem?_eq_getElem hlt⟩
        have hdrop : xs.drop i = c :: xs.drop (i + 1) := by
          rw [List.drop_eq_getElem_cons hlt]
          congr 1
          exact Option.some.inj ((List.getElem?_eq_getElem hlt).symm.trans hpq)
        rw [hdrop] at hdone
        refine wpAny_pyNext_ascii_item hit' (c := c) (by rw [← Array.getElem?_toList]; exact hpq) fun h₂ hit₂ hs₂ => ?_
        dsimp only
        refine wpAny_of_eq (a := ()) rfl ?_
        have up₂ : ∀ c o, c ≠ I → h'.get? c = some o → h₂.get? c = some o := fun c o hc e => hs₂.extBut c o hc e
        refine wpAny_assign_Name (wpAny_storeName_local (lookup_relabel_local hxa) (hn'.at' fun o e => up₂ _ o (Ne.symm hCI) e) (fun h₄ hn₄ hs₄' => ?_) (by simp [compEnvC, relabel, hkind]))
        have hs₄ : ∀ c o, c ≠ H2.objs.size → h₂.get? c = some o → h₄.get? c = some o := fun c o hc e => hs₄'.extBut c o hc e
        have up : ∀ c o, c ≠ I → c ≠ H2.objs.size → h'.get? c = some o → h₄.get? c = some o := fun c o h1 h2 e => hs₄ c o h2 (up₂ c o h1 e)
        obtain ⟨oI2, e2, hc2, hd2⟩ := hit₂
        have heI := hs₄ I _ hCI e2
        obtain ⟨oC, heC, hoC⟩ := PyProof.Rows.LCg.ns_obj hn₄
        have F₄ : Fr h₀ L h₄ m := ⟨F'.ns.at' fun o e => up _ o hIL (Ne.symm hCL) e, fun c o e => up c o (fun q => by rw [q, hI₀] at e; cases e) (fun q => by rw [q, hC₀] at e; cases e) (F'.keep c o e), F'.above⟩
        have N₄ : News h₀ L h₄ ((I, oI2) :: (H2.objs.size, oC) :: (s₂.heap.objs.size, lst ys) :: news') := fun q hq => by
          rcases List.mem_cons.mp hq with rfl | hq
          · exact ⟨heI, Ne.symm hIL, hI₀⟩
          · rcases List.mem_cons.mp hq with rfl | hq
            · exact ⟨heC, hCL, hC₀⟩
            · have z := N' q hq
              refine ⟨up _ _ ?_ ?_ z.1, z.2⟩
              · rcases List.mem_cons.mp hq with rfl | hq
                · exact Ne.symm hDI
                · exact (off3 q hq).1
              · rcases List.mem_cons.mp hq with rfl | hq
                · exact hDC
                · exact (off3 q hq).2.1
        refine wpAny_mono (R done c (xs.drop (i + 1)) ys news' _ I oI2 H2.objs.size oC s₂.heap.objs.size _ h₄ _ _ hdone J' hS' hyl hoC (if_pos rfl) F₄ N₄ off' ⟨hCI, hDI, Ne.symm hDC⟩) (fun ok s₅ h₅ => ?_) fun _ _ e => e
        have back : ∀ h₆ tk₆ ys' news₆, ys'.length ≤ done.length + 1 → Fr h₀ L h₆ m → News h₀ L h₆ ((I, oI2) :: (H2.objs.size, oC) :: (s₂.heap.objs.size, lst ys') :: news₆) → Off3 I H2.objs.size s₂.heap.objs.size news₆ → S' news₆ → J (done ++ [c]) ys' news₆ →
            ∃ m, m < xs.length + 1 - i ∧ ∃ h' tk i ys m' news' done, ({ s₂ with heap := h₆, toks := tk₆ } : Shared) = { s₂ with heap := h', toks := tk } ∧ done ++ xs.drop i = xs ∧ done.length = i ∧ m = xs.length + 1 - i ∧ ys.length ≤ done.length ∧ h'.IsStrIter I "str_ascii_iterator" (S xs) tx i ∧ Fr h₀ L h' _ ∧ h'.Ns H2.objs.size m' ∧
        News h₀ L h' ((s₂.heap.objs.size, lst ys) :: news') ∧ Off3 I H2.objs.size s₂.heap.objs.size news' ∧ S' news' ∧ J done ys news' := fun h₆ tk₆ ys' news₆ hl₆ F₆ N₆ off₆ hS₆ J₆ =>
          ⟨xs.length + 1 - (i + 1), by omega, h₆, tk₆, i + 1, ys', _, news₆, done ++ [c], rfl, by rw [List.append_assoc]; exact hdone, by simp [hdl], rfl, by simpa using hl₆, ⟨_, (N₆ (I, oI2) (.head _)).1, hc2, hd2⟩, F₆, hoC.ns (N₆ (H2.objs.size, oC) (.tail _ (.head _))).1, news_sub N₆ (fun p hp => .tail _ (.tail _ hp)), off₆, hS₆, J₆⟩
        cases ok with
        | false =>
          obtain ⟨h₆, tk₆, news₆, rfl, F₆, N₆, off₆, hS₆, J₆⟩ := h₅
          exact back h₆ tk₆ ys news₆ (Nat.le_succ_of_le hyl) F₆ N₆ off₆ hS₆ J₆
        | true =>
          refine wpAny_mono h₅ (fun y s₆ h₆ => ?_) fun _ _ e => e
          obtain ⟨h₅, tk₅, news₅, rfl, F₅, N₅, off₅, hS₅, J₅⟩ := h₆
          have zD := (N₅ (s₂.heap.objs.size, lst ys) (.tail _ (.tail _ (.head _)))).1
          refine append_at (hsz := by show ys.toArray.size ≤ sizeLine; rw [List.size_toArray, sizeLine_eq]; omega) zD fun h₆ hs₆ hD₆ => ?_
          have off5 := off₅.mem
          refine back h₆ tk₅ (ys ++ [y]) news₅ (by simp; exact hyl) (F₅.change hs₆ hDL hD₀) (fun q hq => ?_) off₅ hS₅ J₅
          rcases List.mem_cons.mp hq with rfl | hq
          · exact ⟨hs₆.extBut _ _ hDI (N₅ _ (.head _)).1, Ne.symm hIL, hI₀⟩
          · rcases List.mem_cons.mp hq with rfl | hq
            · exact ⟨hs₆.extBut _ _ (Ne.symm hDC) (N₅ _ (.tail _ (.head _))).1, hCL, hC₀⟩
            · rcases List.mem_cons.mp hq with rfl | hq
              · exact ⟨hD₆.trans (congrArg some (lst_snoc ys y)), hDL, hD₀⟩
              · have z := N₅ q (.tail _ (.tail _ (.tail _ hq)))
                exact ⟨hs₆.extBut _ _ (off5 q hq).2.2 z.1, z.2⟩
      · have hde : done = xs := by
          rw [List.drop_eq_nil_of_le (by omega)] at hdone
          simpa using hdone
        subst hde
        refine wpAny_pyNext_ascii_end hh hit' (by rw [← Array.getElem?_toList]; exact List.getElem?_eq_none (by show done.length ≤ i; omega)) fun h₂ he₂ => ?_
        have hk₂ : ∀ c o, c ≠ I → h'.get? c = some o → h₂.get? c = some o := fun c o hc e => he₂ c o hc e
        have F₂ := fr_step [I] F' (fun c o hc e => hk₂ c o (fun x => hc (by simp [x])) e) (fun c hc => by rw [List.mem_singleton.mp hc]; exact ⟨Ne.symm hIL, hI₀⟩)
        have N₂ := news_step [I] N' (fun c o hc e => hk₂ c o (fun x => hc (by simp [x])) e) (fun p hp hm => by
          rcases List.mem_cons.mp hp with rfl | hp
          · exact hDI (List.mem_singleton.mp hm).symm
          · exact (off3 p hp).1 (List.mem_singleton.mp hm))
        exact hRR _ _ h₂ tk _ ys news' rfl F₂ N₂ off'.one (hn'.at' fun o e => hk₂ _ o (Ne.symm hCI) e) hC₀ hD₀ hCL hDL (Ne.symm hDC) (fun p hp => (off3 p hp).2.1) J' hS'
    · rcases List.mem_cons.mp hp with rfl | hp
      · exact ⟨hacc, hDL, hD₀⟩
      · exact ⟨old _ _ (N0 p hp).1, (N0 p hp).2⟩
  exact codeAny_compStart_list (loop _ rfl) (wpAny_pyIter_striter_ascii hit₁ (loop _ rfl))
/-- a list of pairs, walked by two names -/
theorem ch_ListComp {elt iter : PySem.Expr} {ifs : List PySem.Expr} {a : Str} {pa : Pos} {scope : Scope} {cl : List (Str × Addr)} {pos : Pos} {Q : Value → Shared → Prop} {xs : List Nat} {tx : Tok}
    {S' : List (Addr × Obj) → Prop} {J : List Nat → List Value → List (Addr × Obj) → Prop} (_F₀ : Fr h₀ L s.heap m)
    (hh : A.handled = none) (hsz : xs.length ≤ 1000)
    (hclos : closureFor scope env = pure cl) (hcell : ∀ y ∈ scope.names, y.2 ≠ .cell) (hkind : scope.kind = .function)
    (hnames : ∀ y ∈ scope.names, y.2 = .local → scope.names.lookup y.1 = some .local) (hxa : scope.names.lookup a = some .local)
    (h : wpAny (model prog w) A (eval iter env) (fun xv s₁ => wpAny (model prog w) A (pyIter xv) (fun it s₂ => ∃ I oI news, it = .ref I ∧ oI.cls = .type "str_ascii_iterator" ∧ oI.data = .fields #[.str (S xs) tx, .int (0 : Nat) 0] ∧ Fr h₀ L s₂.heap m ∧ News h₀ L s₂.heap ((I, oI) :: news) ∧ (∀ p ∈ news, p.1 ≠ I) ∧ S' news ∧ J [] [] news ∧
      ChStep prog w A h₀ L m env elt ifs a scope cl s₂ S' J xs ∧ (∀ D h tk ys news', D = s₂.heap.objs.size → Fr h₀ L h m → News h₀ L h ((D, lst ys) :: news') → Off1 D news' → J xs ys news' → S' news' → Q (.ref D) { s₂ with heap := h, toks := tk })) E s₁) E s)
    (hs : ∀ x, foldedSetIterable iter env x = pure x := by intro _; rfl) :
    wpAny (model prog w) A (eval (.ListComp elt [⟨.Name a pa, iter, ifs, 0⟩] scope pos) env) Q E s := by
  rw [eval_ListComp]
  refine wpAny_comprehension_free (use := none) rfl hs hclos hkind hnames (wpAny_mono h (fun xv s₁ h₁ => wpAny_mono h₁ (fun it s₂ h₂ => ?_) fun _ _ e => e) fun _ _ e => e)
  obtain ⟨I, oI, news, rfl, hc, hd, F, N, off, hS0, hJ0, R, fin⟩ := h₂
  refine ch_block hh hsz hc hd hcell hkind hxa F N off hS0 hJ0 R ?_
  intro D C h tk m' ys news' eD F' N' o1 hn hC₀ hD₀ hCL hDL hCD offC hJ hS'
  refine ⟨m', hn, fun h'' hs'' => fin D h'' tk ys news' eD (F'.change hs'' hCL hC₀) (fun p hp => ?_) o1 hJ hS'⟩
  refine ⟨hs''.extBut _ _ ?_ (N' p hp).1, (N' p hp).2⟩
  rcases List.mem_cons.mp hp with rfl | hp
  · exact Ne.symm hCD
  · exact offC p hp
theorem ch_Assign {elt iter : PySem.Expr} {ifs : List PySem.Expr} {a y : Str} {pa py : Pos} {scope : Scope} {cl : List (Str × Addr)} {pos spos : Pos} {Q : Flow → Shared → Prop} {xs : List Nat} {tx : Tok}
    {S' : List (Addr × Obj) → Prop} {J : List Nat → List Value → List (Addr × Obj) → Prop} (_F₀ : Fr h₀ L s.heap m) (hLe : env.locals = L)
    (hh : A.handled = none) (hsz : xs.length ≤ 1000)
    (hsw : swapsWith (.ListComp elt [⟨.Name a pa, iter, ifs, 0⟩] scope pos) (some (.Name y py)) spos.line env = pure true)
    (hclos : closureFor scope env = pure cl) (hcell : ∀ y ∈ scope.names, y.2 ≠ .cell) (hkind : scope.kind = .function)
    (hnames : ∀ y ∈ scope.names, y.2 = .local → scope.names.lookup y.1 = some .local) (hxa : scope.names.lookup a = some .local)
    (hy : env.kindOf y = some .local) (hp : (env.scope.kind == .class || (env.scope.kind == .module && env.locals != env.globals)) = false)
    (h : wpAny (model prog w) A (eval iter env) (fun xv s₁ => wpAny (model prog w) A (pyIter xv) (fun it s₂ => ∃ I oI news, it = .ref I ∧ oI.cls = .type "str_ascii_iterator" ∧ oI.data = .fields #[.str (S xs) tx, .int (0 : Nat) 0] ∧ Fr h₀ L s₂.heap m ∧ News h₀ L s₂.heap ((I, oI) :: news) ∧ (∀ p ∈ news, p.1 ≠ I) ∧ S' news ∧ J [] [] news ∧
      ChStep prog w A h₀ L m env elt ifs a scope cl s₂ S' J xs ∧ (∀ D h tk ys news', D = s₂.heap.objs.size → Fr h₀ L h (fun z => if z = y then some (.ref D) else m z) → News h₀ L h ((D, lst ys) :: news') → Off1 D news' → J xs ys news' → S' news' → Q .next { s₂ with heap := h, toks := tk })) E s₁) E s)
    (hs : ∀ x, foldedSetIterable iter env x = pure x := by intro _; rfl) :
    wpAny (model prog w) A (exec (.Assign [.Name y py] (.ListComp elt [⟨.Name a pa, iter, ifs, 0⟩] scope pos) spos) env) Q E s := by
  subst hLe
  rw [exec_Assign_Name_used _ _ _ _ hsw]
  refine wpAny_bind (wpAny_standAt (wpAny_bind ?_))
  show wpAny _ A (do let _ ← comprehension (.ListComp elt [⟨.Name a pa, iter, ifs, 0⟩] scope pos) scope env _ (newList []) false (eval iter env) (some (assign (.Name y py) env))) _ _ s
  refine wpAny_bind (wpAny_mono (wpAny_comprehension_free (use := some (assign (.Name y py) env)) (Q := fun _ s' => Q .next s') rfl hs hclos hkind hnames
    (wpAny_mono h (fun xv s₁ h₁ => wpAny_mono h₁ (fun it s₂ h₂ => ?_) fun _ _ e => e) fun _ _ e => e)) (fun _ s' hq => wpAny_pure (wpAny_pure hq)) fun _ _ e => e)
  obtain ⟨I, oI, news, rfl, hc, hd, F, N, off, hS0, hJ0, R, fin⟩ := h₂
  refine ch_block hh hsz hc hd hcell hkind hxa F N off hS0 hJ0 R ?_
  intro D C h' tk m' ys news' eD F' N' o1 hn hC₀ hD₀ hCL hDL hCD offC hJ hS'
  show wpAny _ A (assign (.Name y py) env (.ref D)) _ _ _
  refine wpAny_assign_Name (wpAny_storeName_local hy F'.ns (fun h₂ hn₂ hs₂ => ?_) hp)
  have hL₀ : h₀.get? env.locals = none := Heap.get?_none_of_le F'.above
  have F₂ : Fr h₀ env.locals h₂ (fun z => if z = y then some (.ref D) else m z) := ⟨hn₂, fun b o e => hs₂.extBut b o (fun q => by rw [q, hL₀] at e; cases e) (F'.keep b o e), F'.above⟩
  refine ⟨m', hn.sameBut hs₂ hCL, fun h'' hs'' => fin D h'' _ ys news' eD (F₂.change hs'' hCL hC₀) (fun p hp => ?_) o1 hJ hS'⟩
  have z : h₂.get? p.1 = some p.2 := hs₂.extBut _ _ (N' p hp).2.1 (N' p hp).1
  refine ⟨hs''.extBut _ _ ?_ z, (N' p hp).2⟩
  rcases List.mem_cons.mp hp with rfl | hp
  · exact Ne.symm hCD
  · exact offC p hp
end
end Mine
end
-- DG
section
open PySem PySem.W PyProof.Rows PySem.Spec PySem.Calls
set_option Elab.async false
set_option maxRecDepth 100000
set_option maxHeartbeats 4000000
namespace Mine
theorem tab_at {kvs : List (Str × Value)} {tb : List (Nat × List Nat)} (h : TabOf kvs tb) (c : Nat) : (∃ z t, tb.lookup c = some z ∧ valueAt kvs (S [c]) = some (.str (S z) t)) ∨ (tb.lookup c = none ∧ valueAt kvs (S [c]) = none) := by
  induction h with
  | nil => exact .inr ⟨rfl, rfl⟩
  | @cons d z t kvs tb _ ih =>
    by_cases e : c = d
    · subst e
      refine .inl ⟨z, t, by simp [List.lookup], by simp [valueAt]⟩
    · have hne : ¬ S [d] = S [c] := fun h => e (by have := S_inj h; simpa using this.symm)
      have e1 : List.lookup c ((d, z) :: tb) = List.lookup c tb := by
        rw [List.lookup_cons]
        have : (c == d) = false := by simpa using e
        rw [this]
      have e2 : valueAt ((S [d], Value.str (S z) t) :: kvs) (S [c]) = valueAt kvs (S [c]) := by
        unfold valueAt
        rw [List.find?_cons]
        simp only [hne, decide_false]
      rw [e1, e2]
      exact ih
section
variable {w : World} {p : Program} {A : Around} {E : Value → Shared → Prop} {s : Shared} {h₀ : Heap} {L TB : Addr} {oT : Obj} {kvs : List (Str × Value)} {news : List (Addr × Obj)} {tb : List (Nat × List Nat)}
theorem get_told {c : Nat} {t t' : Tok} {Q : Value → Shared → Prop} (N : News h₀ L s.heap news) (hm : (TB, oT) ∈ news) (hd : oT.IsDictOf (PySem.strKind p w) kvs) (lo : (TB == sysModules) = false) (ht : TabOf kvs tb)
    (h : ∀ t'' k, Q (.str (S ((tb.lookup c).getD [c])) t'') { s with toks := k }) :
    wpAny (model p w) A (call (.builtin "dict.get") [.ref TB, .str (S [c]) t, .str (S [c]) t']) Q E s := by
  have hD := kda_dict N hm hd
  refine call_meetsIn PySem.F.slot_dict_get hD.typeIs PySem.F.entry_dict_get (PySem.F.args_dict_get_3 _ _ _) (meets_dict_get_default (PySem.strKind p w) (k := S [c]) TB (strKind_is _ _ _ _) lo _) ⟨_, hD.mapOf, ?_⟩
  show Q _ _
  rcases tab_at ht c with ⟨z, t2, e1, e2⟩ | ⟨e1, e2⟩
  · rw [e2]
    rw [e1] at h
    exact h _ _
  · rw [e2]
    rw [e1] at h
    exact h _ _
theorem notIn_tab {c : Nat} {t : Tok} {Q : Value → Shared → Prop} (N : News h₀ L s.heap news) (hm : (TB, oT) ∈ news) (hd : oT.IsDictOf (PySem.strKind p w) kvs) (lo : (TB == sysModules) = false) (ht : TabOf kvs tb)
    (h : Q (.bool (tb.lookup c).isNone) { s with toks := s.toks + 1 }) :
    wpAny (model p w) A (compareOp .NotIn (.str (S [c]) t) (.ref TB)) Q E s := by
  have hD := kda_dict N hm hd
  refine wpAny_notIn_of (knd := PySem.strKind p w) (k := S [c]) (strKind_is _ _ _ _) lo hD.mapOf ?_
  have e : (!(valueAt kvs (S [c])).isSome) = (tb.lookup c).isNone := by
    rcases tab_at ht c with ⟨z, t2, e1, e2⟩ | ⟨e1, e2⟩ <;> rw [e1, e2] <;> rfl
  rw [e]
  exact h
end
end Mine
end
-- LQ
section
open PySem PySem.W PyProof.Rows PySem.Spec PySem.Calls PySem.SeqAt
set_option Elab.async false
set_option maxRecDepth 100000
set_option maxHeartbeats 4000000
namespace Mine
structure BoolEnd (b : Bool) (h₀ : Heap) (L : Addr) (m : Str → Option Value) (news : List (Addr × Obj)) (g : Array GenState) (d : Drawn) (os : OsState) (v : Value) (s : Shared) : Prop where
  ex : ∃ h k, v = Value.bool b ∧ s = ⟨h, g, d, k, os⟩ ∧ Fr h₀ L h m ∧ News h₀ L h news
theorem bool_at {prog : Program} {w : World} {A : Around} {E : Value → Shared → Prop} {h₀ h : Heap} {L : Addr} {m : Str → Option Value} {news : List (Addr × Obj)} {g : Array GenState} {d : Drawn} {os : OsState} {tk : Nat} {t : Sem Value} {Q : Value → Shared → Prop}
    (_F : Fr h₀ L h m) (_N : News h₀ L h news) (b : Bool) (h1 : wpAny (model prog w) A t (BoolEnd b h₀ L m news g d os) E ⟨h, g, d, tk, os⟩)
    (h2 : ∀ h' k, Fr h₀ L h' m → News h₀ L h' news → Q (.bool b) ⟨h', g, d, k, os⟩) : wpAny (model prog w) A t Q E ⟨h, g, d, tk, os⟩ :=
  wpAny_mono h1 (by rintro v s ⟨h', k, rfl, rfl, F, N⟩; exact h2 _ _ F N) (fun _ _ x => x)
theorem StrsA.get {vs : List Value} {xs : List (List Nat)} (h : StrsA vs xs) : ∀ (j : Nat) (h1 : j < vs.length), ∃ (h2 : j < xs.length) (t : Tok), vs[j] = .str (S xs[j]) t := by
  induction h with
  | nil => intro j h; simp at h
  | @cons x t vs xs _ ih =>
    intro j h1
    cases j with
    | zero => exact ⟨by simp, t, rfl⟩
    | succ j =>
      obtain ⟨h2, t', e⟩ := ih j (by simpa using h1)
      exact ⟨by simpa using h2, t', by simpa using e⟩
theorem all_eq {xs ys : List (List Nat)} (hl : xs.length = ys.length) : (List.range xs.length).all (fun j => xs[j]? == ys[j]?) = decide (xs = ys) := by
  rw [Bool.eq_iff_iff, List.all_eq_true, decide_eq_true_iff]
  constructor
  · intro h
    apply List.ext_getElem? 
    intro j
    by_cases hj : j < xs.length
    · exact eq_of_beq (h j (List.mem_range.mpr hj))
    · rw [List.getElem?_eq_none (by omega), List.getElem?_eq_none (by omega)]
  · rintro rfl j _
    simp
section
variable {prog : Program} {w : World} {A : Around} {E : Value → Shared → Prop} {s : Shared} {D D2 : Addr} {o o2 : Obj} {vs vs2 : List Value} {n n2 : Nat} {xs ys : List (List Nat)}
theorem str_eqAt (x y : List Nat) (t u : Tok) : EqAt A s (.str (S x) t) (.str (S y) u) (decide (x = y)) := by
  have h := (eqGives_str (S x) (S y) t u).at A s
  rw [S_beq] at h; exact h
theorem items_eqAt (h1 : StrsA vs xs) (h2 : StrsA vs2 ys) (j : Nat) (a : j < vs.toArray.size) (b : j < vs2.toArray.size) : EqAt A s vs.toArray[j] vs2.toArray[j] (xs[j]? == ys[j]?) := by
  obtain ⟨c1, t1, e1⟩ := h1.get j (by simpa using a)
  obtain ⟨c2, t2, e2⟩ := h2.get j (by simpa using b)
  have f1 : vs.toArray[j] = .str (S xs[j]) t1 := by simpa using e1
  have f2 : vs2.toArray[j] = .str (S ys[j]) t2 := by simpa using e2
  rw [f1, f2, List.getElem?_eq_getElem c1, List.getElem?_eq_getElem c2]
  have := str_eqAt (A := A) (s := s) xs[j] ys[j] t1 t2
  have e : (some xs[j] == some ys[j]) = decide (xs[j] = ys[j]) := by
    rw [Bool.eq_iff_iff]; simp
  rw [e]; exact this
theorem lists_eq {Q : Value → Shared → Prop} (g1 : s.heap.IsList D vs.toArray) (g2 : s.heap.IsList D2 vs2.toArray) (h1 : StrsA vs xs) (h2 : StrsA vs2 ys) (hu : A.units < cLine)
    (h : Q (.bool (decide (xs = ys))) s) : wpAny (model prog w) A (compareOp .Eq (.ref D) (.ref D2)) Q E s := by
  have l1 := h1.len
  have l2 := h2.len
  by_cases hl : xs.length = ys.length
  · refine eq_listAt (e := fun j => xs[j]? == ys[j]?) g1 g2 (by simp; omega) hu (items_eqAt h1 h2) ?_
    rw [show vs.toArray.size = xs.length by simp [l1], all_eq hl]
    exact h
  · refine eq_list_lengthsAt g1 g2 (by simp; omega) hu ?_
    rw [decide_eq_false (fun e => hl (by rw [e]))] at h
    exact h
theorem lists_ne {Q : Value → Shared → Prop} (g1 : s.heap.IsList D vs.toArray) (g2 : s.heap.IsList D2 vs2.toArray) (h1 : StrsA vs xs) (h2 : StrsA vs2 ys) (hu : A.units < cLine)
    (h : Q (.bool (!decide (xs = ys))) s) : wpAny (model prog w) A (compareOp .NotEq (.ref D) (.ref D2)) Q E s := by
  have l1 := h1.len
  have l2 := h2.len
  by_cases hl : xs.length = ys.length
  · refine RcNeAt.lists (e := fun j => xs[j]? == ys[j]?) g1 g2 (by simp; omega) hu (items_eqAt h1 h2) prog w E Q ?_
    rw [show vs.toArray.size = xs.length by simp [l1], all_eq hl]
    exact h
  · refine RcNeAt.lists_lengths g1 g2 (by simp; omega) hu prog w E Q ?_
    rw [decide_eq_false (fun e => hl (by rw [e]))] at h
    exact h
theorem list_in {c : List Nat} {t : Tok} {Q : Value → Shared → Prop} (g : s.heap.IsList D vs.toArray) (h1 : StrsA vs xs) (h : Q (.bool (decide (c ∈ xs))) s) :
    wpAny (model prog w) A (compareOp .In (.str (S c) t) (.ref D)) Q E s := by
  refine in_listAt (fun v => match v with | .str x _ => x == S c | _ => false) g (fun y hy => ?_) ?_
  · obtain ⟨j, hj, e⟩ := List.getElem_of_mem (List.mem_toArray.mp hy)
    obtain ⟨c1, t1, e1⟩ := h1.get j hj
    rw [← e, e1]
    have := str_eqAt (A := A.in1) (s := s) xs[j] c t1 t
    simp only [S_beq]
    exact this
  · have e : vs.toArray.any (fun v => match v with | .str x _ => x == S c | _ => false) = decide (c ∈ xs) := by
      rw [List.any_toArray]
      clear g h
      induction h1 with
      | nil => simp
      | @cons x t vs xs _ ih =>
        rw [List.any_cons, ih]
        simp only [S_beq, List.mem_cons]
        by_cases e : x = c
        · subst e; simp
        · have e2 : ¬ c = x := fun h => e h.symm
          simp [e, e2]
    rw [e]; exact h
end
end Mine
end
-- LS
section
open PySem PySem.W PyProof.Rows PySem.Spec PySem.Calls
set_option Elab.async false
namespace Mine
theorem spl_short (c : Nat) : ∀ (l : List Nat), ∀ x ∈ spl c l, x.length ≤ l.length
  | [], x, h => by simp [spl] at h; subst h; exact Nat.le_refl _
  | a :: r, x, h => by
    have ih := spl_short c r
    rw [spl] at h
    split at h
    · rcases List.mem_cons.mp h with rfl | h
      · exact Nat.zero_le _
      · exact Nat.le_succ_of_le (ih x h)
    · split at h
      · rw [List.mem_singleton.mp h]; simp
      · rename_i p ps e
        rw [e] at ih
        rcases List.mem_cons.mp h with rfl | h
        · have := ih p (.head _); simp only [List.length_cons]; omega
        · exact Nat.le_succ_of_le (ih x (.tail _ h))
theorem words_short (T : List Nat) (x : List Nat) (h : x ∈ words T) : x.length ≤ T.length := by
  have h1 := spl_short 32 _ x (List.mem_filter.mp h).1
  rwa [rep1_len] at h1
theorem item_hd (c : Nat) (r : List Nat) : Txt.item (S (c :: r)) 0 = S [c] := item_S (l := c :: r) (k := 0) (Nat.succ_pos _)
theorem sliceIdx_last (n : Nat) : Builtin.Str.strSliceIndices none (some (-1)) 1 n = Builtin.Str.strSliceIndices (some ((0 : Nat) : Int)) (some ((n - 1 : Nat) : Int)) 1 n := by
  unfold Builtin.Str.strSliceIndices
  have e1 : max (0 : Int) (min (((0 : Nat) : Int)) (n : Int)) = 0 := by omega
  have e2 : max (0 : Int) (min (-1 + (n : Int)) (n : Int)) = max 0 (min ((n - 1 : Nat) : Int) (n : Int)) := by omega
  have c1 : ¬ (((0 : Nat) : Int) < 0) := by omega
  have c2 : ¬ (((n - 1 : Nat) : Int) < 0) := by omega
  have c3 : ((-1 : Int) < 0) := by decide
  have c4 : ((1 : Int) > 0) := by decide
  simp only [if_pos c4, if_pos c3, if_neg c1, if_neg c2, e1, e2]
theorem slice_last (l : List Nat) : Txt.slice (S l) none (some (-1)) = S l.dropLast := by
  have e : Txt.slice (S l) none (some (-1)) = Txt.slice (S l) (some ((0 : Nat) : Int)) (some ((l.length - 1 : Nat) : Int)) := by
    rw [slice_is, slice_is]
    unfold StrLaws.sliceText
    rw [S_len, sliceIdx_last]
  rw [e, slice_S _ (Nat.zero_le _), List.drop_zero, Nat.sub_zero, List.dropLast_eq_take]
end Mine
end
-- PH
section
open PySem PySem.W PyProof.Rows PySem.Spec PySem.Calls
set_option Elab.async false
namespace Mine
/-- every other part -/
noncomputable def evens : List (List Nat) → List (List Nat)
  | [] => []
  | [p] => [p]
  | p :: _ :: r => p :: evens r
theorem twos_snd : ∀ r : List (List Nat), r.length % 2 = 0 → (twos r).map (·.2) = evens r.tail
  | [], _ => rfl
  | [_], h => by simp at h
  | a :: b :: r, h => by
    have ih := twos_snd r (by simp only [List.length_cons] at h; omega)
    simp only [twos, List.map_cons, List.tail_cons, ih]
    cases r with
    | nil => rfl
    | cons c r => rfl
theorem nb_bl (c : Nat) : nb c = !bl c := by
  cases h : nb c with
  | false => 
    rcases (nb_iff c).mp h with rfl | rfl <;> rfl
  | true =>
    cases h2 : bl c with
    | false => rfl
    | true =>
      have : nb c = false := (nb_iff c).mpr (Or.symm (by unfold bl at h2; simpa using h2))
      rw [h] at this; cases this
theorem mem_tw {f : Nat → Bool} {c : Nat} : ∀ {l : List Nat}, c ∈ l.takeWhile f → f c = true
  | [], h => by simp at h
  | a :: r, h => by
    rw [List.takeWhile_cons] at h
    split at h
    · rename_i ha
      rcases List.mem_cons.mp h with rfl | h
      · exact ha
      · exact mem_tw h
    · simp at h
theorem evens_words : ∀ (n : Nat) (l : List Nat), l.length ≤ n → (evens (rxF n l)).filter (fun x => decide (x ≠ [])) = words l
  | 0, l, h => by
    have : l = [] := by cases l with | nil => rfl | cons _ _ => simp at h
    subst this; rfl
  | n + 1, l, h => by
    have hall : ∀ u : List Nat, (∀ c ∈ u, nb c = true) → u ≠ [] → ∀ b r, nb b = false → words (u ++ b :: r) = u :: words r := fun u hu h0 => (words_run hu h0).2
    rcases rxF_step n l with ⟨e, hd⟩ | ⟨c, q, e, hb, e2, hl⟩
    · rw [e]
      have hu : ∀ c ∈ l, nb c = true := by
        intro c hc
        have h1 : l.takeWhile (fun c => !bl c) = l := by
          have := List.takeWhile_append_dropWhile (p := fun c => !bl c) (l := l)
          rw [hd, List.append_nil] at this; exact this
        rw [← h1] at hc
        have := mem_tw hc
        rw [nb_bl]; exact this
      by_cases h0 : l = []
      · subst h0; rfl
      · rw [(words_run hu h0).1]
        simp [evens, h0]
    · rw [e2]
      have hsplit : l = l.takeWhile (fun c => !bl c) ++ c :: q := by rw [← e, List.takeWhile_append_dropWhile]
      have hu : ∀ c ∈ l.takeWhile (fun c => !bl c), nb c = true := fun d hd => by
        rw [nb_bl]; exact mem_tw hd
      have hq : (c :: q).dropWhile bl = q.dropWhile bl := by simp [List.dropWhile, hb]
      have hnb : nb c = false := by rw [nb_bl, hb]; rfl
      have hwq : words q = words (q.dropWhile bl) := by
        conv => lhs; rw [← List.takeWhile_append_dropWhile (p := bl) (l := q)]
        exact words_pre (fun d hd => by rw [nb_bl, mem_tw hd]; rfl) _
      have ih := evens_words n ((c :: q).dropWhile bl) (by omega)
      rw [hq] at ih
      rw [hq]
      generalize l.takeWhile (fun c => !bl c) = u at hsplit hu
      subst hsplit
      by_cases h0 : u = []
      · subst h0
        have : words ([] ++ c :: q) = words q := words_pre (p := [c]) (fun d hd => by rw [List.mem_singleton.mp hd]; exact hnb) q
        rw [this, hwq, ← ih]
        simp [evens]
      · rw [hall u hu h0 c q hnb, hwq, ← ih]
        simp [evens, h0]
theorem hdr_words (W : List Nat) : ((hpairs W).map (·.2)).filter (fun x => decide (x ≠ [])) = words W := by
  have h1 := evens_words W.length W (Nat.le_refl _)
  rw [← h1]
  obtain ⟨p0, r0, e⟩ : ∃ p0 r0, rxF W.length W = p0 :: r0 := by
    cases W.length <;> simp only [rxF] <;> (try split) <;> exact ⟨_, _, rfl⟩
  have hodd := rxF_odd W.length W
  unfold hpairs
  rw [e] at hodd ⊢
  simp only [List.length_cons] at hodd
  have hev : evens (p0 :: r0) = p0 :: evens r0.tail := by
    cases r0 with
    | nil => rfl
    | cons b r => rfl
  dsimp only
  rw [hev]
  split
  · rename_i h0
    rw [twos_snd r0 (by omega), h0]
    simp
  · rename_i h0
    rw [List.map_cons, twos_snd r0 (by omega)]
end Mine
end
-- LV
section
open PySem PySem.W PyProof.Rows PySem.Spec PySem.Calls PySem.SeqAt
set_option Elab.async false
set_option maxRecDepth 100000
set_option maxHeartbeats 4000000
namespace Mine
section
variable {prog : Program} {w : World} {A : Around} {E : Value → Shared → Prop} {s : Shared} {D D2 : Addr} {vs vs2 : List Value} {xs ys : List (List Nat)} {Q : Value → Shared → Prop}
theorem count_txt {x : List Nat} {c : Nat} {t u : Tok} {y : Str} (hy : y = S [c]) (h : ∀ t' k, Q (.int (x.count c : Nat) t') { s with toks := k }) :
    wpAny (model prog w) A (call (.builtin "str.count") [.str (S x) t, .str y u]) Q E s :=
  SC.count (by subst hy; rw [cnt_S]; exact h _ _)
theorem lists_rcAt (g1 : s.heap.IsList D vs.toArray) (g2 : s.heap.IsList D2 vs2.toArray) (h1 : StrsA vs xs) (h2 : StrsA vs2 xs) (hu : A.units < cLine) : RcAt A s (.ref D) (.ref D2) true := by
  have l1 := h1.len
  have l2 := h2.len
  have h := RcAt.lists (A := A) (e := fun j => xs[j]? == xs[j]?) g1 g2 (by simp; omega) hu (items_eqAt h1 h2)
  rw [show vs.toArray.size = xs.length by simp [l1], all_eq rfl, decide_eq_true rfl] at h
  exact h
theorem lists_eqAt (g1 : s.heap.IsList D vs.toArray) (g2 : s.heap.IsList D2 vs2.toArray) (h1 : StrsA vs xs) (h2 : StrsA vs2 xs) (hu : A.units < cLine) : EqAt A s (.ref D) (.ref D2) true := by
  by_cases e : D = D2
  · subst e; exact EqAt.same _
  · exact EqAt.of_refs e (lists_rcAt g1 g2 h1 h2 hu)
theorem int_eqAt (i : Int) (t u : Tok) : EqAt A s (.int i t) (.int i u) true := by
  have h := EqAt.int_int (A := A) (s := s) i t i u
  simpa using h
/-- two pairs of an int and a list of texts -/
theorem pair_ne {tp tq : Addr} {i j : Int} {t u : Tok} (p1 : s.heap.IsTuple tp #[.int i t, .ref D]) (p2 : s.heap.IsTuple tq #[.int j u, .ref D2]) (hij : i = j)
    (g1 : s.heap.IsList D vs.toArray) (g2 : s.heap.IsList D2 vs2.toArray) (h1 : StrsA vs xs) (h2 : StrsA vs2 xs) (hu : A.units < cLine) (hu1 : A.in1.units < cLine) (h : Q (.bool false) s) :
    wpAny (model prog w) A (compareOp .NotEq (.ref tp) (.ref tq)) Q E s := by
  subst hij
  refine RcNeAt.tuples (e := fun _ => true) p1 p2 hu (fun k k1 k2 => ?_) prog w E Q h
  match k, k1 with
  | 0, _ => exact int_eqAt i t u
  | 1, _ => exact lists_eqAt g1 g2 h1 h2 hu1
theorem add_txt {a b : List Nat} {x y : Str} {t u : Tok} (hx : x = S a) (hy : y = S b) (hsz : a.length + b.length ≤ 1000) (h : ∀ t' k, Q (.str (S (a ++ b)) t') { s with toks := k }) :
    wpAny (model prog w) A (binaryOp .Add (.str x t) (.str y u)) Q E s := by
  subst hx hy
  refine add_str (fun t' tk => ?_) (hsz := by rw [S_len, S_len, sizeLine_eq]; omega)
  rw [S_app]; exact h _ _
theorem len_txt {l : Addr} (hl : s.heap.IsList l vs.toArray) (hv : StrsA vs xs) (hx : xs.length ≤ 1000) (h : ∀ t' k, k ≠ 0 → Q (.int (xs.length : Nat) t') { s with toks := k }) :
    wpAny (model prog w) A (call (.builtin "len") [.ref l]) Q E s := by
  have e : vs.toArray.size = xs.length := by simp [hv.len]
  refine len_list hl (by rw [e]; omega) ?_
  rw [e]
  exact h _ _ (Nat.succ_ne_zero _)
theorem news_swap {h₀ h : Heap} {L : Addr} {a b : Addr × Obj} {l : List (Addr × Obj)} (N : News h₀ L h (a :: b :: l)) : News h₀ L h (b :: a :: l) := news_sub N fun p hp => by
  rcases List.mem_cons.mp hp with h | h
  · exact h ▸ .tail _ (.head _)
  · rcases List.mem_cons.mp h with h | h
    · exact h ▸ .head _
    · exact .tail _ (.tail _ h)
theorem add_strs {h₀ : Heap} {L : Addr} {m : Str → Option Value} {news : List (Addr × Obj)} (F : Fr h₀ L s.heap m) (N : News h₀ L s.heap news) (hl : s.heap.IsList D vs.toArray) (hb : s.heap.IsList D2 vs2.toArray)
    (hsz : vs.length + vs2.length ≤ 1000) (h : ∀ (D' : Nat) h', Fr h₀ L h' m → News h₀ L h' ((D', PySem.W.listOf (vs ++ vs2).toArray 0) :: news) → Q (.ref D') { s with heap := h' }) :
    wpAny (model prog w) A (binaryOp .Add (.ref D) (.ref D2)) Q E s :=
  add_arrays F N hl hb (fun h' F' N' => h _ h' F' (by simpa [PySem.W.listOf] using N')) (hsz := by simp only [List.size_toArray, sizeLine_eq]; omega)
/-- the cell of the table 348 that the law keeps -/
theorem tab_ext {h₀ h : Heap} {L : Addr} {tb tb2 oC oI : Obj} {ov : Option Value} {its : Array Value} {n : Nat} {D1 C1 I : Nat} {i : Nat} {ra : Value} {news : List (Addr × Obj)}
    (hT : TabOk tb news) (N : News h₀ L h ((348, tb) :: news)) (hD : (D1, PySem.W.listOf its n) ∈ news) (hC : (C1, oC) ∈ news) (hov : oC.data = .cell ov) (hW : (162, tb2) ∈ news) (hW2 : TabW tb2)
    (hI : (I, oI) ∈ news) (hoI : oI.data = .fields #[ra, .int i 0]) :
    ∃ ext : List (Addr × Obj), TabOk tb ext ∧ (∀ q ∈ ext, q ∈ news) ∧ (∀ q ∈ ext, q.1 ≠ I) ∧ ∀ q ∈ ext, q.1 ≠ D1 ∧ q.1 ≠ C1 ∧ q.1 ≠ 162 ∧ q.1 ≠ 348 := by
  rcases hT with e | ⟨c, oc, vs, t, e1, e2, e3, e4⟩
  · exact ⟨[], .inl e, by simp, by simp, by simp⟩
  · have key : ∀ (b : Nat) (o : Obj), (b, o) ∈ (348, tb) :: news → (∀ vs', o.data = .fields vs' → ∀ x t', vs'[1]? ≠ some (.str x t')) → c ≠ b := by
      rintro b o hm hno rfl
      have g1 := (N _ (.tail _ e2)).1
      have g2 := (N _ hm).1
      have e : oc = o := Option.some.inj (g1.symm.trans g2)
      subst e
      exact hno vs e3 _ _ e4
    refine ⟨[(c, oc)], .inr ⟨c, oc, vs, t, e1, .head _, e3, e4⟩, ?_, ?_, ?_⟩
    · intro q hq; rw [List.mem_singleton.mp hq]; exact e2
    · intro q hq; rw [List.mem_singleton.mp hq]
      refine key I oI (.tail _ hI) fun vs' e x t' e5 => ?_
      rw [hoI] at e; cases e; simp at e5
    · intro q hq; rw [List.mem_singleton.mp hq]
      refine ⟨key D1 _ (.tail _ hD) fun vs' e => (nomatch e), key C1 oC (.tail _ hC) fun vs' e => ?_, key 162 tb2 (.tail _ hW) fun vs' e x t' e5 => ?_, key 348 tb (.head _) fun vs' e x t' e5 => ?_⟩
      · rw [hov] at e; cases e
      · obtain ⟨ps, p1, p2⟩ := hW2
        rw [p1] at e
        have e6 : ps = vs' := Data.fields.inj e
        rw [← e6, ← Array.getElem?_toList] at e5
        match hps : ps.toList with
        | [] => rw [hps] at e5; simp at e5
        | [_] => rw [hps] at e5; simp at e5
        | a :: b :: r =>
          rw [hps] at e5 p2
          simp at e5
          subst e5
          cases a <;> simp [TriplesOk] at p2
      · rw [e1] at e; cases e; simp [rawInt] at e5
theorem ne_int_e {i j : Int} {t u : Tok} {b : Bool} (e : (i != j) = b) (h : Q (.bool b) s) : wpAny (model prog w) A (compareOp .NotEq (.int i t) (.int j u)) Q E s := ne_int (by rw [e]; exact h)
theorem ne_bool_e {i j : Bool} {b : Bool} (e : (i != j) = b) (h : Q (.bool b) s) : wpAny (model prog w) A (compareOp .NotEq (.bool i) (.bool j)) Q E s := ne_bool (by rw [e]; exact h)
theorem lists_ne_no (g1 : s.heap.IsList D vs.toArray) (g2 : s.heap.IsList D2 vs2.toArray) (h1 : StrsA vs xs) (h2 : StrsA vs2 ys) (e : xs = ys) (hu : A.units < cLine)
    (h : Q (.bool false) s) : wpAny (model prog w) A (compareOp .NotEq (.ref D) (.ref D2)) Q E s := lists_ne g1 g2 h1 h2 hu (by rw [decide_eq_true e]; exact h)
theorem list_in_e {c : List Nat} {t : Tok} {b : Bool} (g : s.heap.IsList D vs.toArray) (h1 : StrsA vs xs) (e : decide (c ∈ xs) = b) (h : Q (.bool b) s) :
    wpAny (model prog w) A (compareOp .In (.str (S c) t) (.ref D)) Q E s := list_in g h1 (by rw [e]; exact h)
theorem full_bool (i : Nat) (hi : i < 6) (T : List Nat) (hT : ∀ c ∈ T, c ∈ nine) :
    (decide ((toks (T.flatMap (told i))).filter (fun x => S x != S []) = words (T.flatMap (told i))) !=
      (!(decide (92 ∈ bareOf i T) || decide (10 ∈ bareOf i T) || decide (13 ∈ bareOf i T)) && !(decide (34 ∈ bareOf i T) && !decide ((words T).filter (fun x => x.head? == some 34) = [])))) = false := by
  have h := law_lexer i hi T hT
  unfold full at h
  rw [bne_eq_false_iff_eq, Bool.eq_iff_iff, decide_eq_true_iff, h]
  simp only [Bool.and_eq_true, Bool.not_eq_true', Bool.or_eq_false_iff, decide_eq_false_iff_not, Bool.and_eq_false_iff, decide_eq_false_iff_not, Bool.not_eq_false', decide_eq_true_eq, not_or, not_and, not_exists, List.filter_eq_nil_iff, beq_iff_eq]
  constructor
  · rintro ⟨⟨a, b, c⟩, d⟩
    refine ⟨⟨⟨a, b⟩, c⟩, ?_⟩
    by_cases e : 34 ∈ bareOf i T
    · exact .inr (d e)
    · exact .inl e
  · rintro ⟨⟨⟨a, b⟩, c⟩, d⟩
    refine ⟨⟨a, b, c⟩, fun e => ?_⟩
    rcases d with d | d
    · exact absurd e d
    · exact d
theorem inner_bool (i : Nat) (hi : i < 6) (T : List Nat) (hT : ∀ c ∈ T, c ∈ nine) :
    ((S (dirn (T.flatMap (told i) ++ [34])) == S (T.flatMap (told i))) != !(decide (34 ∈ bareOf i T) && decide (34 ∈ T.dropLast))) = false := by
  have h := law_inner i hi T hT
  rw [S_beq, bne_eq_false_iff_eq, Bool.eq_iff_iff, decide_eq_true_iff, h]
  simp only [Bool.not_eq_true', Bool.and_eq_false_iff, decide_eq_false_iff_not]
  by_cases e : 34 ∈ bareOf i T <;> simp [e]
/-- how the law ends -/
noncomputable def LawEnd (s₁ : Shared) (tabs : List (Addr × Addr)) (r : Result) (s' : Shared) : Prop :=
  r = .ok (.ret (.bool true)) ∧ (∀ b o, b ∉ tabs.map (·.2) → s₁.heap.get? b = some o → s'.heap.get? b = some o) ∧ (∀ q ∈ tabs, GrownAt q.2 s'.heap) ∧ s'.os = s₁.os ∧ AllBare s'.gens
theorem law_post {M : Model} {A : Around} {cd : Code} {s s₁ : Shared} {cw : ClaimW} {cl : Str → Option Addr} {mean : ExcName → Option Value} {args : List WData} {tabs : List (Addr × Addr)}
    (hT : TabsAt tabs s₁.heap) (hr : ∀ x, cw.raises args x = false) (hp : cw.post args (.bool true) args = true) (h : codeAny M A cd (LawEnd s₁ tabs) s) : codeAny M A cd (GoodWG cw cl mean args s₁) s := by
  refine codeAny_mono h ?_
  rintro r s' ⟨rfl, keep, gr, os, bare⟩
  have out : ∀ b o, s₁.heap.get? b = some o → (s'.heap.get? b = some o) ∨ (isCodeTable s₁.heap b ∧ o = tabObj #[] ∧ ∃ ps, s'.heap.get? b = some (tabObj ps)) := by
    intro b o e
    by_cases hb : ∃ q ∈ tabs, q.2 = b
    · obtain ⟨q, hq, rfl⟩ := hb
      obtain ⟨c1, c2⟩ := hT q hq
      exact .inr ⟨(c1.tab c2).isCodeTable, Option.some.inj (e.symm.trans c2), gr q hq⟩
    · refine .inl (keep b o (fun hm => ?_) e)
      obtain ⟨q, hq, hqb⟩ := List.mem_map.mp hm
      exact hb ⟨q, hq, hqb⟩
  refine ⟨.inl ⟨_, .bool true, [], rfl, hr, .bool true, hp, unshared_nil⟩, ⟨fun b o e => ?_, fun b o e => ?_⟩, os, bare⟩
  · rcases out b o e with h | ⟨h1, rfl, ps, h3⟩
    · exact .inl h
    · exact .inr (.inl ⟨h1, rfl, #[], ps, rfl, by rw [Array.empty_append]; exact h3⟩)
  · rcases out b o e with h | ⟨_, _, _, h3⟩
    · exact ⟨_, h⟩
    · exact ⟨_, h3⟩
end
end Mine
end
-- LW1
section
open PySem PySem.W PyProof.Rows PySem.Spec PySem.Calls PyProof.Rows.LCg
set_option Elab.async false
set_option maxRecDepth 100000
set_option maxHeartbeats 16000000
namespace Mine
theorem told_len {i : Nat} (hi : i < 6) {T : List Nat} (hl : T.length ≤ 7) (hT : ∀ c ∈ T, c ∈ nine) : (T.flatMap (told i)).length ≤ 42 := by
  have key : ∀ i < 6, ∀ a ∈ nine, (told i a).length ≤ 6 := by decide +kernel
  have h : ∀ T : List Nat, (∀ c ∈ T, c ∈ nine) → (T.flatMap (told i)).length ≤ 6 * T.length := by
    intro T
    induction T with
    | nil => intro _; exact Nat.zero_le _
    | cons a r ih =>
      intro h
      have h1 := key i hi a (h a (.head _))
      have h2 := ih fun c hc => h c (.tail _ hc)
      simp only [List.flatMap_cons, List.length_append, List.length_cons]
      omega
  have := h T hT
  omega
noncomputable abbrev LJ (D1 C1 : Nat) (ws : List Value) (nw : List (Addr × Obj)) (g : Array GenState) (_tk : Nat) : Prop :=
  AllBare g ∧ ∃ (tb tb' oC : Obj) (ov : Option Value) (ext : List (Addr × Obj)), TabW tb ∧ oC.data = .cell ov ∧ nw = (D1, listOf ws.toArray 0) :: (C1, oC) :: (162, tb) :: (348, tb') :: ext ∧ TabOk tb' ext ∧ ∀ q ∈ ext, q.1 ≠ D1 ∧ q.1 ≠ C1 ∧ q.1 ≠ 162 ∧ q.1 ≠ 348
theorem lw : PySem.Challenge.rw_wu0094_01.Holds := Mine.hd (by
  k_fill
  k_with_none
  intro w s₀ s₁ mg mb G Y fa o pm cd doc dV kV ho hd hcd hD hmg hg args vals as hpre hlay hrd hwl hlo
  have KX := km_in_of Y
  km_tabs Y
  have X := (Ground.X G).1
  have V := (Ground.X G).2
  refine Ground.open G ?_
  intro T B D TE TW
  try (refine guard_noD D (by decide +kernel) ?_; clear D)
  have hT9 : TabsAt [(166, 162), (352, 348)] _ := List.forall_mem_cons.mpr ⟨⟨codeHd_of_K (c := 166) (P := 162) KX (by kernel_rfl), hT8 162 (by k_mem)⟩, List.forall_mem_cons.mpr ⟨⟨codeHd_of_K (c := 352) (P := 348) KX (by kernel_rfl), hT8 348 (by k_mem)⟩, fun _ h => nomatch h⟩⟩
  clear hmg
  wrow_args hpre hlay hrd hwl hlo
  all_goals (
    first | refine callC_kw (enter_call ?_) | refine enter_call ?_
    w_top on
    refine law_post hT9 (fun _ => rfl) (by first | wrow_post | kc_post) ?_
    w_call any ho hd hcd hD T F
    clear hd
    kn_ghosts F T
    k_drop
    skip)
  all_goals try k_fold
  (k_with "exec For" => refine halt ?_)
  k_steps
  refine unhalt ?_
  k_with_none
  refine wpAny_For ?_ (fun _ => rfl)
  (k_with "pyIter ref" => refine halt ?_)
  k_steps
  refine unhalt ?_
  k_with_none
  rename Fr _ _ _ _ => F1
  rename News _ _ _ _ => N1
  rename IntsAre _ (_ ++ _) => hI1
  rename_i tkz oC hcell X0 KX1 T1 B1 cd1 l0z Da va ha ia la lb l00 l0 h00 l01 D1 ws h2 l1
  have hcell' : ∃ ov, oC.data = .cell ov := ⟨_, hcell⟩
  clear hcell X0 ia la lb lifted
  refine int_turns (n := 0) rfl rfl rfl hI1 (LJ D1 (s₁.heap.objs.size + 1) ws) ?hJ ?hJt ?step ?hR (nw := (D1, listOf ws.toArray 0) :: (s₁.heap.objs.size + 1, oC) :: (162, tabObj #[]) :: (348, tabObj #[]) :: []) ?J0 F1 ?N0
  case hJ => rintro nw g tk ⟨_, tb, tb', oC, ov, ext, _, _, rfl, _⟩; exact .head _
  case hJt => rintro nw g tk tk' a hle; exact a
  case J0 =>
    obtain ⟨ov, hov⟩ := hcell'
    exact ⟨AllBare.of_eq hg, tabObj #[], tabObj #[], oC, ov, [], ⟨#[], rfl, trivial⟩, hov, rfl, .inl rfl, by simp⟩
  case N0 =>
    refine news_sub N1 fun p hp => ?_
    rcases List.mem_cons.mp hp with rfl | hp
    · exact .head _
    exact .tail _ (.tail _ (.tail _ hp))
  case hR =>
    intro h g tk nw m hJ F N
    obtain ⟨hG, tb, tb', oC, ov, ext, hT, hov, rfl, hT2, hext⟩ := hJ
    replace F : Fr (ghostOf s₁.heap [(166, 162), (352, 348)]) s₁.heap.objs.size h m := F
    replace N : News (ghostOf s₁.heap [(166, 162), (352, 348)]) s₁.heap.objs.size h _ := N
    rw [execs_cons]
    refine wpAny_bind (wpAny_Return_some (wpAny_of_eq (a := Value.bool true) (by with_unfolding_all rfl) (wpAny_pure ?_)))
    obtain ⟨ps, rfl, _⟩ := hT
    have h348 : GrownAt 348 h := by
      rcases hT2 with rfl | ⟨c, oc, vs, t, rfl, _⟩
      · exact ⟨_, (N (348, _) (.tail _ (.tail _ (.tail _ (.head _))))).1⟩
      · exact ⟨_, (N (348, _) (.tail _ (.tail _ (.tail _ (.head _))))).1⟩
    exact ⟨rfl, fun b o hb e => F.keep b o (ghost_ne e hb), List.forall_mem_cons.mpr ⟨⟨ps, (N (162, _) (.tail _ (.tail _ (.head _)))).1⟩, List.forall_mem_cons.mpr ⟨h348, fun _ h => nomatch h⟩⟩, rfl, hG⟩
  case step =>
    rintro v t nw g h tk m I oI E' ⟨hG, tb, tb', oC, ov, ext, hT, hov, rfl, hT2, hext⟩ F3 N3 off3 ⟨iI, hoI⟩
    have hC1 : s₁.heap.objs.size + 1 < D1 := by omega
    dsimp only at cd1 codeHd
    (k_with "execs cons" => ((rename Fr _ _ _ _ => FZ); refine gtkF FZ g s₁.drawn s₁.os rfl ?_; intro tkF))
    (k_with "call ref" => refine halt ?_)
    k_steps
    refine unhalt ?_
    replace F3 : Fr (ghostOf s₁.heap [(166, 162), (352, 348)]) s₁.heap.objs.size h _ := F3
    replace N3 : News (ghostOf s₁.heap [(166, 162), (352, 348)]) s₁.heap.objs.size h _ := N3
    refine wpAny_weaken (B := ktrTop 600 3000 (some []) _ (fsc _ _) _ _ _ _ _) rfl (Nat.le_of_ble_eq_true rfl) rfl rfl (Nat.le_of_ble_eq_true rfl) (c_drawn v t _ _ _ _ _ _ _ _ _ _ _ _ _ _ _ B1 F3 KX1 N3 T1 ?_)
    intro tp i th tt T h4 tk4 hi hTl hTm F4 N4 htp
    clear F3 N3
    k_steps
    refine unhalt ?_
    rename Fr _ _ _ _ => F5
    rename News _ _ _ ((_, _) :: _) => N5
    replace N5 : News (ghostOf s₁.heap [(166, 162), (352, 348)]) s₁.heap.objs.size _ ((s₁.heap.objs.size + 1, oC) :: (I, oI) :: (D1, listOf ws.toArray 0) :: (162, tb) :: (348, tb') :: ext) := news_sub N5 (by
      exact List.forall_mem_cons.mpr ⟨.tail _ (.tail _ (.tail _ (.head _))), List.forall_mem_cons.mpr ⟨.tail _ (.head _), List.forall_mem_cons.mpr ⟨.tail _ (.tail _ (.head _)), List.forall_mem_cons.mpr ⟨.tail _ (.tail _ (.tail _ (.tail _ (.head _)))), List.forall_mem_cons.mpr ⟨.tail _ (.tail _ (.tail _ (.tail _ (.tail _ (.head _))))), fun _ h => .tail _ (.tail _ (.tail _ (.tail _ (.tail _ (.tail _ (h))))))⟩⟩⟩⟩⟩)
    skip
    refine wpAny_weaken (B := ktrTop 600 3000 (some []) _ (fsc _ _) _ _ _ _ _) rfl (Nat.le_of_ble_eq_true rfl) rfl rfl (Nat.le_of_ble_eq_true rfl) (c_table i hi th _ _ _ _ _ _ _ _ _ _ _ _ _ _ _ B1 F5 KX1 N5 T1 ?_)
    intro TB oT kvs h6 tk6 hdict htab hsys F6 N6
    clear F5 N5
    have hTBc : TB ≠ s₁.heap.objs.size + 1 := by
      rintro rfl
      have e1 := (N6 (_, oT) (.head _)).1
      have e2 := (N6 (_, oC) (.tail _ (.head _))).1
      rw [e1] at e2
      obtain ⟨es, ep, h1, h2⟩ := hdict
      have e3 : oT = oC := Option.some.inj e2
      rw [e3, hov] at h2
      cases h2.1
    have hCI : I ≠ s₁.heap.objs.size + 1 := fun e => off3 (_, oC) (.tail _ (.head _)) e.symm
    have hall : ∀ p ∈ (TB, oT) :: (I, oI) :: (D1, listOf ws.toArray 0) :: (162, tb) :: (348, tb') :: ext, p.1 ≠ s₁.heap.objs.size + 1 := by
      exact List.forall_mem_cons.mpr ⟨hTBc, List.forall_mem_cons.mpr ⟨hCI, List.forall_mem_cons.mpr ⟨Nat.ne_of_gt hC1, List.forall_mem_cons.mpr ⟨Nat.ne_of_lt (Nat.lt_succ_of_lt l0z.1), List.forall_mem_cons.mpr ⟨Nat.ne_of_lt (Nat.lt_succ_of_lt l0z.2), fun p hp => (hext p hp).2.1⟩⟩⟩⟩⟩
    replace N6 : News (ghostOf s₁.heap [(166, 162), (352, 348)]) s₁.heap.objs.size h6 ((s₁.heap.objs.size + 1, oC) :: (TB, oT) :: (I, oI) :: (D1, listOf ws.toArray 0) :: (162, tb) :: (348, tb') :: ext) := news_sub N6 (by
      exact List.forall_mem_cons.mpr ⟨.tail _ (.head _), List.forall_mem_cons.mpr ⟨.head _, fun _ h => .tail _ (.tail _ (h))⟩⟩)
    refine storeX_C F6 N6 (c := s₁.heap.objs.size + 1) rfl (UpdF.head hall) hov ?_
    intro h7 oC2 F7 N7 hov2
    clear F6 N6 hov
    k_steps
    refine unhalt ?_
    rename Fr _ _ _ _ => F8
    rename News _ _ _ ((_, _) :: _) => N8
    refine wpAny_weaken (B := ktrTop 600 3000 (some []) _ (fsc _ _) _ _ _ _ _) rfl (Nat.le_of_ble_eq_true rfl) rfl rfl (Nat.le_of_ble_eq_true rfl) (c_hand i hi T tt th hTl _ _ _ _ _ _ _ _ _ _ _ _ _ _ _ B1 F8 KX1 N8 T1 ?_)
    intro tw h9 tk9 F9 N9
    rw [esc_told i hi T hTm]
    obtain ⟨W, hW⟩ : ∃ W, W = T.flatMap (told i) := ⟨_, rfl⟩
    have hfl : (T.map (told i)).flatten = W := by rw [hW, List.flatMap_def]
    have hWl : W.length ≤ 42 := by rw [hW]; exact told_len hi hTl hTm
    rw [← hW]
    clear F8 N8
    (k_with "eval ListComp" => refine halt ?_)
    k_steps
    refine unhalt ?_
    k_with_none
    (k_with "execs cons" => ((rename Fr _ _ _ _ => FZ); refine gtkF FZ g s₁.drawn s₁.os rfl ?_; intro tkF))
    rename Fr _ _ _ _ => F10
    rename News _ _ _ ((_, _) :: _) => N10
    have hasc : (S T).cps.all (· < 128) = true := by
      rw [← Array.all_toList]
      exact List.all_eq_true.mpr fun c hc => by
        have := hTm c hc
        simp only [List.mem_cons, List.not_mem_nil, or_false] at this
        rcases this with h | h | h | h | h | h | h | h | h <;> rw [h] <;> rfl
    refine ch_ListComp (xs := T) (tx := tt) (S' := fun _ => True) (J := fun done zs nw => nw = (s₁.heap.objs.size + 1, oC2) :: (TB, oT) :: (I, oI) :: (D1, listOf ws.toArray 0) :: (162, tb) :: (348, tb') :: ext ∧ StrsA zs (done.map (told i)))
      F10 rfl (by omega) rfl (by decide) rfl (by decide) rfl ?_ (fun _ => rfl)
    (k_with "pyIter str" => refine halt ?_)
    k_steps
    refine unhalt ?_
    k_with_none
    (k_with "execs cons" => ((rename Fr _ _ _ _ => FZ); refine gtkF FZ g s₁.drawn s₁.os rfl ?_; intro tkF))
    refine wpAny_pyIter_ascii hasc ?_
    have F11 := Fr.push F10 { cls := .type "str_ascii_iterator", data := .fields #[.str (S T) tt, .int 0 0] }
    have N11 := News.push F10 N10 { cls := .type "str_ascii_iterator", data := .fields #[.str (S T) tt, .int 0 0] } rfl
    refine ⟨_, _, _, rfl, rfl, rfl, F11, N11, fun p hp => Nat.ne_of_lt (Heap.lt_size (N10 p hp).1), trivial, ⟨rfl, .nil⟩, ?stU, ?fiU⟩
    case stU =>
      clear F11 N11
      rintro done c r zs nw t I2 oI2 C oC D2 m₂ h tk E' hd ⟨rfl, hz⟩ _ hl hC' ha F12 N12 off ne
      refine wpAny_tests_nil ?_
      rw [if_pos rfl]
      (k_with "eval Name" => refine halt ?_)
      k_steps
      refine unhalt ?_
      k_with_none
      (k_with "execs cons" => ((rename Fr _ _ _ _ => FZ); refine gtkF FZ g s₁.drawn s₁.os rfl ?_; intro tkF))
      refine kcf_cell N12 (c := s₁.heap.objs.size + 1) rfl (.tail _ (.tail _ (.tail _ (.head _)))) hov2 ?_
      refine kdl_method (id := "dict.get") PySem.F.slot_dict_get PySem.F.type_dict_get N12 (.tail _ (.tail _ (.tail _ (.tail _ (.head _))))) hdict ?_
      dsimp only
      (k_with "call builtin:dict.get" => refine halt ?_)
      k_steps
      refine unhalt ?_
      k_with_none
      (k_with "execs cons" => ((rename Fr _ _ _ _ => FZ); refine gtkF FZ g s₁.drawn s₁.os rfl ?_; intro tkF))
      refine get_told N12 (.tail _ (.tail _ (.tail _ (.tail _ (.head _))))) hdict hsys htab fun t2 k2 => ?_
      exact CompEnd.intro F12 N12 _ (fun r hr => hr) off trivial ⟨rfl, by rw [List.map_append]; exact hz.snoc (told i c) t2⟩
    case fiU =>
      clear F11 N11
      rintro D2 h tk zs nw eD F13 N13 off ⟨rfl, hz⟩ _
      dsimp only
      k_steps
      refine join_A (N13 (D2, lst zs) (.head _)).1 rfl rfl hz (by rw [hfl]; omega) (by rw [List.length_map]; omega) fun t4 k4 => ?_
      rw [hfl]
      (k_with "exec Assign cons ListComp" => refine halt ?_)
      k_steps
      · exfalso
        rename (S W != S W) = true => hb
        simp at hb
      refine unhalt ?_
      k_with_none
      (k_with "execs cons" => ((rename Fr _ _ _ _ => FZ); refine gtkF FZ g s₁.drawn s₁.os rfl ?_; intro tkF))
      rename (S W != S W) = false => hb
      clear hb
      replace N13 : News _ _ h ((s₁.heap.objs.size + 1, oC2) :: (TB, oT) :: (I, oI) :: (D1, listOf ws.toArray 0) :: (162, tb) :: (348, tb') :: ext) := news_sub N13 fun r hr => .tail _ hr
      clear off hz eD
      refine ch_Assign (xs := T) (tx := tt) (S' := fun _ => True) (J := fun done zs nw => nw = (s₁.heap.objs.size + 1, oC2) :: (TB, oT) :: (I, oI) :: (D1, listOf ws.toArray 0) :: (162, tb) :: (348, tb') :: ext ∧ StrsA zs ((bareOf i done).map fun c => [c]))
        F13 rfl rfl (by omega) (by with_unfolding_all rfl) rfl (by decide) rfl (by decide) rfl rfl rfl ?_ (fun _ => rfl)
      (k_with "pyIter str" => refine halt ?_)
      k_steps
      refine unhalt ?_
      k_with_none
      (k_with "execs cons" => ((rename Fr _ _ _ _ => FZ); refine gtkF FZ g s₁.drawn s₁.os rfl ?_; intro tkF))
      refine wpAny_pyIter_ascii hasc ?_
      have F14 := Fr.push F13 { cls := .type "str_ascii_iterator", data := .fields #[.str (S T) tt, .int 0 0] }
      have N14 := News.push F13 N13 { cls := .type "str_ascii_iterator", data := .fields #[.str (S T) tt, .int 0 0] } rfl
      refine ⟨_, _, _, rfl, rfl, rfl, F14, N14, fun p hp => Nat.ne_of_lt (Heap.lt_size (N13 p hp).1), trivial, ⟨rfl, .nil⟩, ?stU, ?fiU⟩
      case stU =>
        clear F14 N14
        rintro done c r zs nw t I2 oI2 C oC D2 m₂ h tk E' hd ⟨rfl, hz⟩ _ hl hC' ha F15 N15 off ne
        refine wpAny_tests_one ?_
        refine wpAny_isTrue_Compare1 ?_
        (k_with "eval Name" => ((with_reducible show wpAny _ _ (eval (PySem.Expr.Name (PySem.Str.ofString "table") _) _) _ _ _); (refine halt ?_)))
        k_steps
        refine unhalt ?_
        k_with_none
        (k_with "execs cons" => ((rename Fr _ _ _ _ => FZ); refine gtkF FZ g s₁.drawn s₁.os rfl ?_; intro tkF))
        refine kcf_cell N15 (c := s₁.heap.objs.size + 1) rfl (.tail _ (.tail _ (.tail _ (.head _)))) hov2 ?_
        refine notIn_tab N15 (.tail _ (.tail _ (.tail _ (.tail _ (.head _))))) hdict hsys htab ?_
        (k_with "CompEnd" => refine halt ?_)
        have hbo : bareOf i (done ++ [c]) = bareOf i done ++ [c].filter (fun c => ((tbl i).lookup c).isNone) := by simp only [bareOf, List.filter_append]
        cases hb : ((tbl i).lookup c).isNone
        · k_steps
          refine unhalt ?_
          k_with_none
          (k_with "execs cons" => ((rename Fr _ _ _ _ => FZ); refine gtkF FZ g s₁.drawn s₁.os rfl ?_; intro tkF))
          refine ⟨h, _, _, rfl, F15, N15, off, trivial, rfl, ?_⟩
          rw [hbo, List.filter_cons_of_neg (by simpa using hb)]
          simpa using hz
        · k_steps
          refine unhalt ?_
          k_with_none
          (k_with "execs cons" => ((rename Fr _ _ _ _ => FZ); refine gtkF FZ g s₁.drawn s₁.os rfl ?_; intro tkF))
          refine ⟨h, _, _, rfl, F15, N15, off, trivial, rfl, ?_⟩
          rw [hbo, List.filter_cons_of_pos (by simpa using hb), List.map_append]
          exact hz.snoc [c] t
      case fiU =>
        clear F14 N14
        rintro D2 h tk zs nw eD F15 N15 off ⟨rfl, hz⟩ _
        dsimp only
        have hbr : zs.length = (bareOf i T).length := by rw [hz.len, List.length_map]
        (k_with "exec Assign cons BoolOp" => refine wpAny_Assign_Name ?_)
        (k_with "eval BoolOp Or" => refine halt ?_)
        (k_with "eval Compare" => refine wpAny_Compare1 ?_)
        (k_with "compareOp In" => refine halt ?_)
        (k_with "compareOp In str ref" => refine halt ?_)
        k_steps
        refine unhalt ?_
        have hm : ∀ c, decide ([c] ∈ (bareOf i T).map fun c => [c]) = decide (c ∈ bareOf i T) := fun c => by
          rw [Bool.eq_iff_iff]; simp
        have gD2 : (⟨h, g, s₁.drawn, tk, s₁.os⟩ : Shared).heap.IsList D2 zs.toArray := ⟨_, (N15 (D2, lst zs) (.head _)).1, rfl, _, rfl⟩
        obtain ⟨torn, htorn⟩ : ∃ torn, torn = (decide (92 ∈ bareOf i T) || decide (10 ∈ bareOf i T) || decide (13 ∈ bareOf i T)) := ⟨_, rfl⟩
        refine bool_at F15 N15 torn ?tornE ?aft
        case tornE =>
          refine BoolOp_or ?_
          k_steps
          refine unhalt ?_
          refine list_in_e (c := [92]) gD2 hz (hm _) ?_
          cases h92 : decide (92 ∈ bareOf i T)
          · k_steps
            refine unhalt ?_
            refine BoolOp_or ?_
            k_steps
            refine unhalt ?_
            refine list_in_e (c := [10]) gD2 hz (hm _) ?_
            cases h10 : decide (10 ∈ bareOf i T)
            · k_steps
              refine unhalt ?_
              refine BoolOp_one ?_
              k_steps
              refine unhalt ?_
              refine list_in_e (c := [13]) gD2 hz (hm _) ?_
              k_steps
              exact ⟨_, _, by rw [htorn, h92, h10]; rfl, rfl, F15, N15⟩
            · k_steps
              exact ⟨_, _, by rw [htorn, h92, h10]; rfl, rfl, F15, N15⟩
          · k_steps
            exact ⟨_, _, by rw [htorn, h92]; rfl, rfl, F15, N15⟩
        case aft =>
          intro h5 k5 F16 N16
          clear F15 N15 gD2
          k_with_none
          (k_with "execs cons" => ((rename Fr _ _ _ _ => FZ); refine gtkF FZ g s₁.drawn s₁.os rfl ?_; intro tkF))
          (k_with "exec Assign cons BoolOp" => refine wpAny_Assign_Name ?_)
          (k_with "eval BoolOp And" => refine halt ?_)
          (k_with "eval Compare" => refine wpAny_Compare1 ?_)
          (k_with "compareOp In str ref" => refine halt ?_)
          (k_with "call ref" => refine halt ?_)
          k_steps
          refine unhalt ?_
          rename Fr _ _ _ _ => F17
          rename News _ _ _ (_ :: _) => N17
          obtain ⟨opened, hop⟩ : ∃ opened, opened = (decide (34 ∈ bareOf i T) && !decide ((words T).filter (fun x => x.head? == some 34) = [])) := ⟨_, rfl⟩
          refine bool_at F17 N17 opened ?opE ?aft2
          case opE =>
            refine BoolOp_and ?_
            k_steps
            refine unhalt ?_
            refine list_in_e (c := [34]) ⟨_, (N17 (D2, lst zs) (.head _)).1, rfl, _, rfl⟩ hz (hm _) ?_
            cases h34 : decide (34 ∈ bareOf i T)
            · k_steps
              exact ⟨_, _, by rw [hop, h34]; rfl, rfl, F17, N17⟩
            · k_steps
              refine unhalt ?_
              refine BoolOp_one ?_
              k_steps
              refine unhalt ?_
              k_with_none
              (k_with "execs cons" => ((rename Fr _ _ _ _ => FZ); refine gtkF FZ g s₁.drawn s₁.os rfl ?_; intro tkF))
              have hwl : (words T).length ≤ 20 := by
                have h1 := spl_len 32 (rep 9 [32] T)
                have h2 : (rep 9 [32] T).length = T.length := rep1_len _ _ _
                unfold words
                exact Nat.le_trans (List.length_filter_le _ _) (by omega)
              refine wpAny_weaken (B := ktrTop 600 3000 (some []) _ (fsc _ _) _ _ _ _ _) rfl (Nat.le_of_ble_eq_true rfl) rfl rfl (Nat.le_of_ble_eq_true rfl) (c_words T tt (by omega) _ _ _ _ _ _ _ _ _ _ _ _ _ _ _ B1 F17 KX1 N17 T1 ?_)
              intro D8 c8 ys8 h8 tk8 F18 N18 hD8 hw8
              refine comp_strs (pz := fun a => a.cps.toList.head? == some 34) rfl hw8 (by omega) (News.isList (a := D8) N18 (.head _)) F18 N18 ?q1 ?q2 ?q3
              case' q1 => (intros; (rename ItemKind.is _ _ _ => i'); (obtain ⟨_, e'⟩ := ItemKind.str_is i'; subst e'); (refine wpAny_leafK ?_); (try (first | ((with_reducible refine markB ?_); intro _) | ((with_reducible refine markD ?_); intro _))))
              case' q2 => (intros; (rename ItemKind.is _ _ _ => i'); (obtain ⟨_, e'⟩ := ItemKind.str_is i'; subst e'); (refine wpAny_leafK ?_); (try (first | ((with_reducible refine markB ?_); intro _) | ((with_reducible refine markD ?_); intro _))))
              case' q3 => intro D9 ys9 c9 h9 tk9 F19 N19 hD9 hys9
              case q2 => k_steps
              case q1 =>
                k_steps
                rename _ ∈ List.map S (words T) => hmem
                obtain ⟨x, hx, rfl⟩ := List.mem_map.mp hmem
                obtain ⟨hne, _⟩ := words_mem _ T (Nat.le_refl _) x hx
                obtain ⟨c, r, rfl⟩ : ∃ c r, x = c :: r := by
                  cases x with
                  | nil => exact absurd rfl hne
                  | cons c r => exact ⟨c, r, rfl⟩
                have hxl := words_short T _ hx
                refine KXi.item (n := (c :: r).length) (S_len _) (by simp only [List.length_cons]; omega) (by simp only [List.length_cons]; omega) (by omega) (fun _ => ?_)
                rw [item_hd]
                k_steps
                have he : (S [c] == Str.ofString "\"") = ((S (c :: r)).cps.toList.head? == some 34) := by
                  rw [show Str.ofString "\"" = S [34] from rfl, S_beq, Bool.eq_iff_iff]
                  simp [S]
                rw [he]
                k_steps
              case q3 =>
                (k_with "compareOp NotEq ref ref" => refine halt ?_)
                k_steps
                refine unhalt ?_
                rename News _ _ _ (_ :: _) => N20
                refine lists_ne (vs2 := []) (ys := []) ⟨_, (N20 (D9, _) (.tail _ (.head _))).1, rfl, _, rfl⟩ ⟨_, (N20 (_, _) (.head _)).1, rfl, _, rfl⟩ hys9 .nil (Nat.le_of_ble_eq_true rfl) ?_
                rename Fr _ _ _ _ => F20
                refine ⟨_, _, ?_, rfl, F20, news_sub N20 fun r hr => .tail _ (.tail _ (.tail _ hr))⟩
                rw [hop, h34]
                rfl
          case aft2 =>
            intro h20 k20 F21 N21
            clear F17 N17
            k_with_none
            (k_with "execs cons" => ((rename Fr _ _ _ _ => FZ); refine gtkF FZ g s₁.drawn s₁.os rfl ?_; intro tkF))
            (k_with "exec Assign cons BoolOp" => refine wpAny_Assign_Name ?_)
            (k_with "eval BoolOp And" => refine halt ?_)
            (k_with "eval Compare" => refine wpAny_Compare1 ?_)
            (k_with "compareOp In str ref" => refine halt ?_)
            (k_with "compareOp In str str" => refine halt ?_)
            (k_with "call ref" => refine halt ?_)
            k_steps
            refine unhalt ?_
            rename Fr _ _ _ _ => F22
            rename News _ _ _ (_ :: _) => N22
            obtain ⟨inner, hin⟩ : ∃ inner, inner = (decide (34 ∈ bareOf i T) && decide (34 ∈ T.dropLast)) := ⟨_, rfl⟩
            refine bool_at F22 N22 inner ?inE ?aft3
            case inE =>
              refine BoolOp_and ?_
              k_steps
              refine unhalt ?_
              refine list_in_e (c := [34]) ⟨_, (N22 (D2, lst zs) (.head _)).1, rfl, _, rfl⟩ hz (hm _) ?_
              cases h34 : decide (34 ∈ bareOf i T)
              · k_steps
                exact ⟨_, _, by rw [hin, h34]; rfl, rfl, F22, N22⟩
              · k_steps
                refine unhalt ?_
                refine BoolOp_one ?_
                k_steps
                refine slice_strN_ns (s := ⟨_, _, _, _, _⟩) F22 N22 (fun h23 t23 k23 F23 N23 => ?_) (hsz := by rw [S_len, sizeLine_eq]; omega)
                rw [slice_last]
                refine P.in_str (y := S [34]) ?_
                rw [in_S]
                exact ⟨_, _, by rw [hin, h34]; rfl, rfl, F23, N23⟩
            case aft3 =>
              intro h24 k24 F24 N24
              clear F22 N22
              k_with_none
              (k_with "execs cons" => ((rename Fr _ _ _ _ => FZ); refine gtkF FZ g s₁.drawn s₁.os rfl ?_; intro tkF))
              (k_with "call ref" => refine halt ?_)
              k_steps
              refine unhalt ?_
              rename Fr _ _ _ _ => F25
              rename News _ _ _ (_ :: _) => N25
              have hn162 : ∀ q ∈ (s₁.heap.objs.size + 1, oC2) :: (I, oI) :: (D1, listOf ws.toArray 0) :: (348, tb') :: ext, q.1 ≠ 162 := by
                exact List.forall_mem_cons.mpr ⟨Nat.ne_of_gt (Nat.lt_succ_of_lt l0z.1), List.forall_mem_cons.mpr ⟨fun e => off3 (162, tb) (.tail _ (.tail _ (.head _))) e.symm, List.forall_mem_cons.mpr ⟨Nat.ne_of_gt (Nat.lt_trans (Nat.lt_succ_of_lt l0z.1) hC1), List.forall_mem_cons.mpr ⟨(by decide : (348 : Nat) ≠ 162), fun q hq => (hext q hq).2.2.1⟩⟩⟩⟩
              refine wpAny_weaken (B := ktrTop 400 1500 (some []) _ (fsc _ _) _ _ _ _ _) rfl (Nat.le_of_ble_eq_true rfl) rfl rfl (Nat.le_of_ble_eq_true rfl)
                (c_header (tb := tb) (news := (s₁.heap.objs.size + 1, oC2) :: (I, oI) :: (D1, listOf ws.toArray 0) :: (348, tb') :: ext) W (by omega) tw _ _ _ _ _ _ _ _ _ _ _ _ _ _ _ B1 F25 KX1 (news_sub N25 ?n1) T1 cd1 hT hG hn162 ?_)
              case n1 =>
                exact List.forall_mem_cons.mpr ⟨.tail _ (.tail _ (.tail _ (.tail _ (.tail _ (.head _))))), List.forall_mem_cons.mpr ⟨.tail _ (.head _), List.forall_mem_cons.mpr ⟨.tail _ (.tail _ (.tail _ (.head _))), List.forall_mem_cons.mpr ⟨.tail _ (.tail _ (.tail _ (.tail _ (.head _)))), List.forall_mem_cons.mpr ⟨.tail _ (.tail _ (.tail _ (.tail _ (.tail _ (.tail _ (.head _)))))), fun _ h => .tail _ (.tail _ (.tail _ (.tail _ (.tail _ (.tail _ (.tail _ (h)))))))⟩⟩⟩⟩⟩
              intro tb2 T2 D3 n3 vs3 t3 h25 g25 tk25 hTb2 hG2 hlow h162l hDT hs3 F26 N26
              clear F25 N25
              k_with_none
              (k_with "execs cons" => ((rename Fr _ _ _ _ => FZ); refine gtkF FZ g25 s₁.drawn s₁.os rfl ?_; intro tkF))
              (k_with "call ref" => refine halt ?_)
              k_steps
              · exfalso
                rename (S W != S W) = true => hb
                simp at hb
              refine unhalt ?_
              rename (S W != S W) = false => hb
              clear hb
              rename Fr _ _ _ _ => F27
              rename News _ _ _ (_ :: _) => N27
              refine wpAny_weaken (B := ktrTop 600 3000 (some []) _ (fsc _ _) _ _ _ _ _) rfl (Nat.le_of_ble_eq_true rfl) rfl rfl (Nat.le_of_ble_eq_true rfl) (c_words W tw (by omega) _ _ _ _ _ _ _ _ _ _ _ _ _ _ _ B1 F27 KX1 N27 T1 ?_)
              intro D4 c4 ys4 h28 tk28 F28 N28 hD4 hw4
              refine lists_ne_no ⟨_, (N28 (D3, _) (.tail _ (.tail _ (.head _)))).1, rfl, _, rfl⟩ ⟨_, (N28 (D4, _) (.head _)).1, rfl, _, rfl⟩ hs3 hw4 (hdr_words W) (Nat.le_of_ble_eq_true rfl) ?_
              clear F27 N27
              k_steps
              refine unhalt ?_
              have hn348 : ∀ q ∈ (D3, listOf vs3.toArray n3) :: (s₁.heap.objs.size + 1, oC2) :: (I, oI) :: (D1, listOf ws.toArray 0) :: (162, tb2) :: ext, q.1 ≠ 348 := by
                exact List.forall_mem_cons.mpr ⟨Nat.ne_of_gt (hlow (348, tb') (.tail _ (.tail _ (.tail _ (.head _))))), List.forall_mem_cons.mpr ⟨Nat.ne_of_gt (Nat.lt_succ_of_lt l0z.2), List.forall_mem_cons.mpr ⟨fun e => off3 (348, tb') (.tail _ (.tail _ (.tail _ (.head _)))) e.symm, List.forall_mem_cons.mpr ⟨Nat.ne_of_gt (Nat.lt_trans (Nat.lt_succ_of_lt l0z.2) hC1), List.forall_mem_cons.mpr ⟨(by decide : (162 : Nat) ≠ 348), fun q hq => (hext q hq).2.2.2⟩⟩⟩⟩⟩
              have hT3 : TabOk tb' ((D3, listOf vs3.toArray n3) :: (s₁.heap.objs.size + 1, oC2) :: (I, oI) :: (D1, listOf ws.toArray 0) :: (162, tb2) :: ext) := by
                rcases hT2 with h | ⟨c, oc, vs, t, e1, e2, e3, e4⟩
                · exact .inl h
                · exact .inr ⟨c, oc, vs, t, e1, .tail _ (.tail _ (.tail _ (.tail _ (.tail _ e2)))), e3, e4⟩
              refine wpAny_weaken (B := ktrTop 600 3000 (some []) _ (fsc _ _) _ _ _ _ _) rfl (Nat.le_of_ble_eq_true rfl) rfl rfl (Nat.le_of_ble_eq_true rfl)
                (c_netrc (tb := tb') (news := (D3, listOf vs3.toArray n3) :: (s₁.heap.objs.size + 1, oC2) :: (I, oI) :: (D1, listOf ws.toArray 0) :: (162, tb2) :: ext) tw W (by omega) _ _ _ _ _ _ _ _ _ _ _ _ _ _ _ B1 F28 KX1 (news_sub N28 ?n2) T1 codeHd hn348 hT3 ?_)
              case n2 =>
                exact List.forall_mem_cons.mpr ⟨.tail _ (.tail _ (.tail _ (.tail _ (.tail _ (.tail _ (.tail _ (.head _))))))), List.forall_mem_cons.mpr ⟨.tail _ (.tail _ (.head _)), List.forall_mem_cons.mpr ⟨.tail _ (.tail _ (.tail _ (.tail _ (.head _)))), List.forall_mem_cons.mpr ⟨.tail _ (.tail _ (.tail _ (.tail _ (.tail _ (.head _))))), List.forall_mem_cons.mpr ⟨.tail _ (.tail _ (.tail _ (.tail _ (.tail _ (.tail _ (.head _)))))), List.forall_mem_cons.mpr ⟨.tail _ (.tail _ (.tail _ (.head _))), fun _ h => .tail _ (.tail _ (.tail _ (.tail _ (.tail _ (.tail _ (.tail _ (.tail _ (h))))))))⟩⟩⟩⟩⟩⟩
              intro tp5 D5 cr5 c5 oc5 tb5 tn5 ys5 h30 tk30 hs5 hT5 hn5 F30 N30
              clear N28 F28
              simp only [cutTail] at hT5 hn5 N30
              k_with_none
              (k_with "execs cons" => ((rename Fr _ _ _ _ => FZ); refine gtkF FZ g25 s₁.drawn s₁.os rfl ?_; intro tkF))
              have hCI5 : True := trivial
              have hends : ((((1 + nl W : Nat)) : Int) != 1 + ((W.count 10 : Nat) : Int)) = false := by simp [nl]
              (k_with "exec If" => refine wpAny_If ?_)
              (k_with "isTrue Compare" => refine wpAny_isTrue_Compare1 ?_)
              (k_with "call builtin:str.count" => (refine count_txt (c := 10) (by with_unfolding_all rfl) ?_; intro t9 k9))
              (k_with "binaryOp Add int int" => refine add_int ?_)
              (k_with "compareOp NotEq int int" => refine halt ?_)
              k_steps
              refine unhalt ?_
              refine ne_int_e hends ?_
              k_with_none
              (k_with "execs cons" => ((rename Fr _ _ _ _ => FZ); refine gtkF FZ g25 s₁.drawn s₁.os rfl ?_; intro tkF))
              (k_with "exec If" => refine wpAny_If ?_)
              (k_with "isTrue Compare" => refine wpAny_isTrue_Compare1 ?_)
              (k_with "eval Compare" => refine wpAny_Compare1 ?_)
              (k_with "compareOp Eq ref ref" => refine halt ?_)
              (k_with "eval BoolOp And" => refine halt ?_)
              k_steps
              refine unhalt ?_
              rename Fr _ _ _ _ => F31
              rename News _ _ _ (_ :: _) => N31
              refine lists_eq ⟨_, (N31 (D5, _) (.tail _ (.tail _ (.head _)))).1, rfl, _, rfl⟩ ⟨_, (N31 (D3, _) (.tail _ (.tail _ (.tail _ (.tail _ (.head _)))))).1, rfl, _, rfl⟩ hs5 (hdr_words W ▸ hs3) (Nat.le_of_ble_eq_true rfl) ?_
              k_steps
              refine unhalt ?_
              refine bool_at F31 N31 (!torn && !opened) ?ntE ?aft4
              case ntE =>
                cases torn
                · cases opened
                  · refine BoolOp_and ?_
                    k_steps
                    refine unhalt ?_
                    refine BoolOp_one ?_
                    k_steps
                    exact ⟨_, _, rfl, rfl, F31, N31⟩
                  · refine BoolOp_and ?_
                    k_steps
                    refine unhalt ?_
                    refine BoolOp_one ?_
                    k_steps
                    exact ⟨_, _, rfl, rfl, F31, N31⟩
                · refine BoolOp_and ?_
                  k_steps
                  exact ⟨_, _, rfl, rfl, F31, N31⟩
              case aft4 =>
                intro h32 k32 F32 N32
                clear F31 N31
                refine ne_bool_e (show (decide (List.filter (fun x => S x != S []) (toks W) = words W) != (!torn && !opened)) = false by rw [htorn, hop, hW]; exact full_bool i hi T hTm) ?_
                k_with_none
                (k_with "execs cons" => ((rename Fr _ _ _ _ => FZ); refine gtkF FZ g25 s₁.drawn s₁.os rfl ?_; intro tkF))
                (k_with "binaryOp Add str str" => first | refine add_txt (a := [50, 53, 55, 32, 34]) (b := W) (by with_unfolding_all rfl) rfl (by simp only [List.length_cons, List.length_nil]; omega) ?_ | refine add_txt (a := [50, 53, 55, 32, 34] ++ W) (b := [34]) rfl (by with_unfolding_all rfl) (by simp only [List.length_append, List.length_cons, List.length_nil]; omega) ?_)
                (k_with "call ref" => refine halt ?_)
                k_steps
                refine unhalt ?_
                rename Fr _ _ _ _ => F33
                rename News _ _ _ (_ :: _) => N33
                refine wpAny_weaken (B := ktrTop 600 2000 (some []) _ (fsc _ _) _ _ _ _ _) rfl (Nat.le_of_ble_eq_true rfl) rfl rfl (Nat.le_of_ble_eq_true rfl) (c_p257 _ (W ++ [34]) (by simp only [List.length_append, List.length_cons, List.length_nil]; omega) _ _ _ _ _ _ _ _ _ _ _ _ _ _ _ B1 F33 KX1 N33 T1 ?_)
                intro tN h34 tk34 F34 N34
                clear F33 N33
                have hXl : (dirn (W ++ [34])).length ≤ 42 := Nat.le_trans (dirn_len _ W (Nat.le_refl _)) hWl
                have hib : ((S (dirn (W ++ [34])) == S W) != !inner) = false := by rw [hin, hW]; exact inner_bool i hi T hTm
                obtain ⟨X, hX⟩ : ∃ X, X = dirn (W ++ [34]) := ⟨_, rfl⟩
                rw [← hX] at hXl hib ⊢
                k_with_none
                (k_with "execs cons" => ((rename Fr _ _ _ _ => FZ); refine gtkF FZ g25 s₁.drawn s₁.os rfl ?_; intro tkF))
                (k_with "exec If" => refine wpAny_If ?_)
                (k_with "isTrue Compare" => refine wpAny_isTrue_Compare1 ?_)
                (k_with "eval Compare" => refine wpAny_Compare1 ?_)
                (k_with "compareOp Eq str str" => refine eq_str ?_)
                (k_with "compareOp NotEq bool bool" => refine halt ?_)
                k_steps
                refine unhalt ?_
                refine ne_bool_e hib ?_
                k_with_none
                (k_with "execs cons" => ((rename Fr _ _ _ _ => FZ); refine gtkF FZ g25 s₁.drawn s₁.os rfl ?_; intro tkF))
                (k_with "call builtin:str.split" => refine halt ?_)
                k_steps
                refine unhalt ?_
                rename Fr _ _ _ _ => F35
                rename News _ _ _ (_ :: _) => N35
                refine split_txt (c := 34) (by with_unfolding_all rfl) (by omega) F35 N35 ?_
                intro D6 vs6 h36 k36 F36 N36 l36 hs6
                clear F35 N35
                k_with_none
                (k_with "execs cons" => ((rename Fr _ _ _ _ => FZ); refine gtkF FZ g25 s₁.drawn s₁.os rfl ?_; intro tkF))
                (k_with "exec If" => refine wpAny_If ?_)
                (k_with "isTrue Compare" => refine wpAny_isTrue_Compare1 ?_)
                (k_with "call builtin:len" => refine halt ?_)
                k_steps
                refine unhalt ?_
                rename Fr _ _ _ _ => F37
                rename News _ _ _ (_ :: _) => N37
                have hsl : (spl 34 X).length ≤ 43 := by have := spl_len 34 X; omega
                refine len_txt ⟨_, (N37 (D6, _) (.head _)).1, rfl, _, rfl⟩ hs6 (by omega) ?_
                intro t38 k38 hk38
                (k_with "call ref" => refine halt ?_)
                k_steps
                refine unhalt ?_
                refine wpAny_weaken (B := ktrTop 600 3000 (some []) _ (fsc _ _) _ _ _ _ _) rfl (Nat.le_of_ble_eq_true rfl) rfl rfl (Nat.le_of_ble_eq_true rfl) (c_name _ _ ([50, 53, 55, 32, 34] ++ (W ++ [34])) (by simp only [List.length_append, List.length_cons, List.length_nil]; omega) (spl 34 X).length (by omega) _ _ _ _ _ _ _ _ _ _ _ _ _ _ _ B1 F37 KX1 (news_swap N37) T1 codeHd (List.forall_mem_cons.mpr ⟨Nat.ne_of_gt (l36 (348, tb5) (.head _)), hn5⟩) hT5.tail hk38 ?_)
                obtain ⟨e1, e2⟩ := law_name (W ++ [34])
                rw [← hX] at e1 e2
                intro tp7 D7 cr7 c7 oc7 tb7 tn7 ys7 h39 tk39 hs7 hT7 hn7 F39 N39
                rw [e1] at hs7
                rw [e2] at hT7 hn7 N39
                simp only [cutTail] at hT7 hn7 N39
                clear F37 N37
                k_with_none
                (k_with "execs cons" => ((rename Fr _ _ _ _ => FZ); refine gtkF FZ g25 s₁.drawn s₁.os rfl ?_; intro tkF))
                (k_with "call builtin:str.count" => (refine count_txt (c := 10) (by with_unfolding_all rfl) ?_; intro t9 k9))
                (k_with "binaryOp Add int int" => refine add_int ?_)
                (k_with "binaryOp Add ref ref" => refine halt ?_)
                k_steps
                refine unhalt ?_
                rename Fr _ _ _ _ => F40
                rename News _ _ _ (_ :: _) => N40
                refine add_strs (vs := [.str _ _]) F40 N40 ⟨_, (N40 (_, _) (.head _)).1, rfl, _, rfl⟩ ⟨_, (N40 (D6, _) (.tail _ (.tail _ (.tail _ (.tail _ (.tail _ (.head _))))))).1, rfl, _, rfl⟩ (by rw [hs6.len, List.length_singleton]; omega) ?_
                intro D8 h41 F41 N41
                clear F40 N40
                k_with_none
                (k_with "execs cons" => ((rename Fr _ _ _ _ => FZ); refine gtkF FZ g25 s₁.drawn s₁.os rfl ?_; intro tkF))
                (k_with "compareOp NotEq ref ref" => refine halt ?_)
                k_steps
                refine unhalt ?_
                rename Fr _ _ _ _ => F42
                rename News _ _ _ (_ :: _) => N42
                refine pair_ne (i := ((1 + nl X : Nat) : Int)) ⟨_, (N42 (tp7, _) (.tail _ (.tail _ (.tail _ (.tail _ (.head _)))))).1, rfl, _, rfl⟩ ⟨_, (N42 (_, _) (.head _)).1, rfl, _, rfl⟩ (by simp [nl]) ⟨_, (N42 (D7, _) (.tail _ (.tail _ (.tail _ (.tail _ (.tail _ (.head _))))))).1, rfl, _, rfl⟩ ⟨_, (N42 (D8, _) (.tail _ (.head _))).1, rfl, _, rfl⟩ hs7 (.cons hs6) (Nat.le_of_ble_eq_true rfl) (Nat.le_of_ble_eq_true rfl) ?_
                k_with_none
                (k_with "execs cons" => ((rename Fr _ _ _ _ => FZ); refine gtkF FZ g25 s₁.drawn s₁.os rfl ?_; intro tkF))
                k_steps
                obtain ⟨ext', hx1, hx2, hx3, hx4⟩ := tab_ext (D1 := D1) (C1 := s₁.heap.objs.size + 1) (I := I) hT7 (news_sub N42 fun p hp => .tail _ (.tail _ (.tail _ hp))) (.tail _ (.tail _ (.tail _ (.tail _ (.tail _ (.tail _ (.tail _ (.tail _ (.tail _ (.tail _ (.head _))))))))))) (.tail _ (.tail _ (.tail _ (.tail _ (.tail _ (.tail _ (.tail _ (.tail _ (.head _))))))))) hov2 (.tail _ (.tail _ (.tail _ (.tail _ (.tail _ (.tail _ (.tail _ (.tail _ (.tail _ (.tail _ (.tail _ (.head _)))))))))))) hTb2 (.tail _ (.tail _ (.tail _ (.tail _ (.tail _ (.tail _ (.tail _ (.tail _ (.tail _ (.head _)))))))))) hoI
                refine ⟨rfl, _, _, _, (D1, listOf ws.toArray 0) :: (s₁.heap.objs.size + 1, oC2) :: (162, tb2) :: (348, tb7) :: ext', _, rfl, F42, news_sub N42 ?sub, ⟨hG2, tb2, tb7, oC2, _, ext', hTb2, hov2, rfl, hx1, hx4⟩, ?off⟩
                case sub =>
                  intro p hp
                  rcases List.mem_cons.mp hp with rfl | hp
                  · exact .tail _ (.tail _ (.tail _ (.tail _ (.tail _ (.tail _ (.tail _ (.tail _ (.tail _ (.tail _ (.tail _ (.tail _ (.tail _ (.head _)))))))))))))
                  rcases List.mem_cons.mp hp with rfl | hp
                  · exact .tail _ (.tail _ (.tail _ (.tail _ (.tail _ (.tail _ (.tail _ (.tail _ (.tail _ (.tail _ (.tail _ (.tail _ (.tail _ (.tail _ (.head _))))))))))))))
                  rcases List.mem_cons.mp hp with rfl | hp
                  · exact .tail _ (.tail _ (.tail _ (.tail _ (.tail _ (.tail _ (.tail _ (.tail _ (.tail _ (.tail _ (.tail _ (.tail _ (.head _))))))))))))
                  rcases List.mem_cons.mp hp with rfl | hp
                  · exact .tail _ (.tail _ (.tail _ (.tail _ (.tail _ (.tail _ (.tail _ (.tail _ (.tail _ (.tail _ (.tail _ (.tail _ (.tail _ (.tail _ (.tail _ (.head _)))))))))))))))
                  rcases List.mem_cons.mp hp with rfl | hp
                  · exact .tail _ (.tail _ (.tail _ (.head _)))
                  exact .tail _ (.tail _ (.tail _ (.tail _ (hx2 p hp))))
                case off =>
                  exact List.forall_mem_cons.mpr ⟨off3 (D1, _) (.head _), List.forall_mem_cons.mpr ⟨off3 (_, oC) (.tail _ (.head _)), List.forall_mem_cons.mpr ⟨off3 (162, tb) (.tail _ (.tail _ (.head _))), List.forall_mem_cons.mpr ⟨off3 (348, tb') (.tail _ (.tail _ (.tail _ (.head _)))), hx3⟩⟩⟩⟩)
end Mine
end
end
end
set_option maxRecDepth 100000 in
set_option maxHeartbeats 16000000 in
theorem PySem.Challenge.cw_wu0094_01_holds : PySem.Challenge.rw_wu0094_01.Holds := by
  exact Mine.lw
