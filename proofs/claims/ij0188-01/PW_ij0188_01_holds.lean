import PyProof.Rows.All
import Wide.All
import OpenK.AllK
import Wide.FinOn
import PySem.Challenge.RW_ij0188_01
set_option Elab.async false
set_option maxRecDepth 100000
set_option maxHeartbeats 8000000
set_option linter.all false
namespace Mine
noncomputable section
open PySem PySem.W PyProof.Rows PySem.Spec PySem.Calls
noncomputable abbrev tPW : Program := PySem.Challenge.pw_ij0188_01
noncomputable abbrev zS (s : String) : Str := Str.ofString s
noncomputable abbrev zs (s : String) (t : Tok) : Value := .str (Str.ofString s) t
noncomputable abbrev zi (i : Int) : Value := .int i 0
noncomputable abbrev zr (a : Nat) : Value := .ref a
noncomputable abbrev ze (P : Params) (x : String) (t : Tok) (v : Value) : DictEntry := ⟨PyData.keyHash P (Str.ofString x), .str (Str.ofString x) t, v⟩
noncomputable abbrev zt (c : String) (d : Data) : Obj := Obj.mk (Value.type c) none d #[]
noncomputable abbrev zn (c : Value) (d : Data) : Obj := Obj.mk c none d #[]
noncomputable abbrev zb : Obj → BT → BT → BT := BT.node
noncomputable abbrev zz : BT := BT.nil
noncomputable abbrev zp : Stmt := .Pass ⟨0, 0, 0, 0⟩
noncomputable abbrev tM (i : Nat) : Stmt := tPW.main.body.getD i zp
noncomputable def tL (s : Stmt) (i : Nat) : Stmt := match s with | .FunctionDef (body := b) .. => b.getD i zp | _ => zp
noncomputable def tC (s : Stmt) (i : Nat) : Stmt := match s with | .ClassDef (body := b) .. => b.getD i zp | _ => zp
noncomputable def tB (s : Stmt) : FuncBody := match s with | .FunctionDef (body := b) .. => .stmts b | _ => .stmts []
noncomputable def tA (s : Stmt) : Arguments := match s with | .FunctionDef (args := b) .. => b | _ => default
noncomputable def tG (s : Stmt) : Scope := match s with | .FunctionDef (scope := b) .. => b | _ => default
abbrev zo0 (P : Params) := (zt "dict" (Data.dict #[(ze P "__name__" 1 (zs "builtins" 160)), (ze P "__doc__" 2 (Value.builtin "builtins.__doc__:str#opaque")), (ze P "__package__" 3 (Value.builtin "builtins.__package__:str#opaque")), (ze P "__loader__" 4 (Value.builtin "builtins.__loader__:shared#opaque")), (ze P "__spec__" 5 (Value.builtin "builtins.__spec__#opaque")), (ze P "__build_class__" 6 (Value.builtin "__build_class__")), (ze P "__import__" 7 (Value.builtin "__import__")), (ze P "abs" 8 (Value.builtin "abs")), (ze P "all" 9 (Value.builtin "all")), (ze P "any" 10 (Value.builtin "any")), (ze P "ascii" 11 (Value.builtin "ascii")), (ze P "bin" 12 (Value.builtin "bin")), (ze P "breakpoint" 13 (Value.builtin "breakpoint")), (ze P "callable" 14 (Value.builtin "callable")), (ze P "chr" 15 (Value.builtin "chr")), (ze P "compile" 16 (Value.builtin "compile")), (ze P "delattr" 17 (Value.builtin "delattr")), (ze P "dir" 18 (Value.builtin "dir")), (ze P "divmod" 19 (Value.builtin "divmod")), (ze P "eval" 20 (Value.builtin "eval")), (ze P "exec" 21 (Value.builtin "exec")), (ze P "format" 22 (Value.builtin "format")), (ze P "getattr" 23 (Value.builtin "getattr")), (ze P "globals" 24 (Value.builtin "globals")), (ze P "hasattr" 25 (Value.builtin "hasattr")), (ze P "hash" 26 (Value.builtin "hash")), (ze P "hex" 27 (Value.builtin "hex")), (ze P "id" 28 (Value.builtin "id")), (ze P "input" 29 (Value.builtin "input")), (ze P "isinstance" 30 (Value.builtin "isinstance")), (ze P "issubclass" 31 (Value.builtin "issubclass")), (ze P "iter" 32 (Value.builtin "iter")), (ze P "aiter" 33 (Value.builtin "aiter")), (ze P "len" 34 (Value.builtin "len")), (ze P "locals" 35 (Value.builtin "locals")), (ze P "max" 36 (Value.builtin "max")), (ze P "min" 37 (Value.builtin "min")), (ze P "next" 38 (Value.builtin "next")), (ze P "anext" 39 (Value.builtin "anext")), (ze P "oct" 40 (Value.builtin "oct")), (ze P "ord" 41 (Value.builtin "ord")), (ze P "pow" 42 (Value.builtin "pow")), (ze P "print" 43 (Value.builtin "print")), (ze P "repr" 44 (Value.builtin "repr")), (ze P "round" 45 (Value.builtin "round")), (ze P "setattr" 46 (Value.builtin "setattr")), (ze P "sorted" 47 (Value.builtin "sorted")), (ze P "sum" 48 (Value.builtin "sum")), (ze P "vars" 49 (Value.builtin "vars")), (ze P "None" 50 Value.none), (ze P "Ellipsis" 51 Value.ellipsis), (ze P "NotImplemented" 52 Value.notImplemented), (ze P "False" 53 (Value.bool Bool.false)), (ze P "True" 54 (Value.bool Bool.true)), (ze P "bool" 55 (Value.type "bool")), (ze P "memoryview" 56 (Value.type "memoryview")), (ze P "bytearray" 57 (Value.type "bytearray")), (ze P "bytes" 58 (Value.type "bytes")), (ze P "classmethod" 59 (Value.type "classmethod")), (ze P "complex" 60 (Value.type "complex")), (ze P "dict" 61 (Value.type "dict")), (ze P "enumerate" 62 (Value.type "enumerate")), (ze P "filter" 63 (Value.type "filter")), (ze P "float" 64 (Value.type "float")), (ze P "frozenset" 65 (Value.type "frozenset")), (ze P "property" 66 (Value.type "property")), (ze P "int" 67 (Value.type "int")), (ze P "list" 68 (Value.type "list")), (ze P "map" 69 (Value.type "map")), (ze P "object" 70 (Value.type "object")), (ze P "range" 71 (Value.type "range")), (ze P "reversed" 72 (Value.type "reversed")), (ze P "set" 73 (Value.type "set")), (ze P "slice" 74 (Value.type "slice")), (ze P "staticmethod" 75 (Value.type "staticmethod")), (ze P "str" 76 (Value.type "str")), (ze P "super" 77 (Value.type "super")), (ze P "tuple" 78 (Value.type "tuple")), (ze P "type" 79 (Value.type "type")), (ze P "zip" 80 (Value.type "zip")), (ze P "__debug__" 81 (Value.bool Bool.true)), (ze P "BaseException" 82 (Value.type "BaseException")), (ze P "BaseExceptionGroup" 83 (Value.type "BaseExceptionGroup")), (ze P "Exception" 84 (Value.type "Exception")), (ze P "GeneratorExit" 85 (Value.type "GeneratorExit")), (ze P "KeyboardInterrupt" 86 (Value.type "KeyboardInterrupt")), (ze P "SystemExit" 87 (Value.type "SystemExit")), (ze P "ArithmeticError" 88 (Value.type "ArithmeticError")), (ze P "AssertionError" 89 (Value.type "AssertionError")), (ze P "AttributeError" 90 (Value.type "AttributeError")), (ze P "BufferError" 91 (Value.type "BufferError")), (ze P "EOFError" 92 (Value.type "EOFError")), (ze P "ImportError" 93 (Value.type "ImportError")), (ze P "LookupError" 94 (Value.type "LookupError")), (ze P "MemoryError" 95 (Value.type "MemoryError")), (ze P "NameError" 96 (Value.type "NameError")), (ze P "OSError" 97 (Value.type "OSError")), (ze P "ReferenceError" 98 (Value.type "ReferenceError")), (ze P "RuntimeError" 99 (Value.type "RuntimeError")), (ze P "StopAsyncIteration" 100 (Value.type "StopAsyncIteration")), (ze P "StopIteration" 101 (Value.type "StopIteration")), (ze P "SyntaxError" 102 (Value.type "SyntaxError")), (ze P "SystemError" 103 (Value.type "SystemError")), (ze P "TypeError" 104 (Value.type "TypeError")), (ze P "ValueError" 105 (Value.type "ValueError")), (ze P "Warning" 106 (Value.type "Warning")), (ze P "FloatingPointError" 107 (Value.type "FloatingPointError")), (ze P "OverflowError" 108 (Value.type "OverflowError")), (ze P "ZeroDivisionError" 109 (Value.type "ZeroDivisionError")), (ze P "BytesWarning" 110 (Value.type "BytesWarning")), (ze P "DeprecationWarning" 111 (Value.type "DeprecationWarning")), (ze P "EncodingWarning" 112 (Value.type "EncodingWarning")), (ze P "FutureWarning" 113 (Value.type "FutureWarning")), (ze P "ImportWarning" 114 (Value.type "ImportWarning")), (ze P "PendingDeprecationWarning" 115 (Value.type "PendingDeprecationWarning")), (ze P "ResourceWarning" 116 (Value.type "ResourceWarning")), (ze P "RuntimeWarning" 117 (Value.type "RuntimeWarning")), (ze P "SyntaxWarning" 118 (Value.type "SyntaxWarning")), (ze P "UnicodeWarning" 119 (Value.type "UnicodeWarning")), (ze P "UserWarning" 120 (Value.type "UserWarning")), (ze P "BlockingIOError" 121 (Value.type "BlockingIOError")), (ze P "ChildProcessError" 122 (Value.type "ChildProcessError")), (ze P "ConnectionError" 123 (Value.type "ConnectionError")), (ze P "FileExistsError" 124 (Value.type "FileExistsError")), (ze P "FileNotFoundError" 125 (Value.type "FileNotFoundError")), (ze P "InterruptedError" 126 (Value.type "InterruptedError")), (ze P "IsADirectoryError" 127 (Value.type "IsADirectoryError")), (ze P "NotADirectoryError" 128 (Value.type "NotADirectoryError")), (ze P "PermissionError" 129 (Value.type "PermissionError")), (ze P "ProcessLookupError" 130 (Value.type "ProcessLookupError")), (ze P "TimeoutError" 131 (Value.type "TimeoutError")), (ze P "IndentationError" 132 (Value.type "IndentationError")), (ze P "_IncompleteInputError" 133 (Value.type "_IncompleteInputError")), (ze P "IndexError" 134 (Value.type "IndexError")), (ze P "KeyError" 135 (Value.type "KeyError")), (ze P "ModuleNotFoundError" 136 (Value.type "ModuleNotFoundError")), (ze P "NotImplementedError" 137 (Value.type "NotImplementedError")), (ze P "PythonFinalizationError" 138 (Value.type "PythonFinalizationError")), (ze P "RecursionError" 139 (Value.type "RecursionError")), (ze P "UnboundLocalError" 140 (Value.type "UnboundLocalError")), (ze P "UnicodeError" 141 (Value.type "UnicodeError")), (ze P "BrokenPipeError" 142 (Value.type "BrokenPipeError")), (ze P "ConnectionAbortedError" 143 (Value.type "ConnectionAbortedError")), (ze P "ConnectionRefusedError" 144 (Value.type "ConnectionRefusedError")), (ze P "ConnectionResetError" 145 (Value.type "ConnectionResetError")), (ze P "TabError" 146 (Value.type "TabError")), (ze P "UnicodeDecodeError" 147 (Value.type "UnicodeDecodeError")), (ze P "UnicodeEncodeError" 148 (Value.type "UnicodeEncodeError")), (ze P "UnicodeTranslateError" 149 (Value.type "UnicodeTranslateError")), (ze P "ExceptionGroup" 150 (Value.type "ExceptionGroup")), (ze P "EnvironmentError" 151 (Value.type "OSError")), (ze P "IOError" 152 (Value.type "OSError")), (ze P "open" 153 (Value.builtin "open")), (ze P "quit" 154 (Value.builtin "builtins.quit#opaque")), (ze P "exit" 155 (Value.builtin "builtins.exit#opaque")), (ze P "copyright" 156 (Value.builtin "builtins.copyright#opaque")), (ze P "credits" 157 (Value.builtin "builtins.credits#opaque")), (ze P "license" 158 (Value.builtin "builtins.license#opaque")), (ze P "help" 159 (Value.builtin "builtins.help#opaque"))] 159))
abbrev zo1 (P : Params) := (zt "dict" (Data.dict #[(ze P "builtins" 162 (zr 4)), (ze P "__main__" 163 (zr 5)), (ze P "_sre" 244 (zr 12)), (ze P "_collections" 292 (zr 30))] 4))
abbrev zo2 (P : Params) := (zn Value.none (Data.dict #[(ze P "\x69mport.loaded._sre" 183 (Value.bool Bool.true)), (ze P "class._frozen_importlib.BuiltinImporter" 185 (zr 14)), (ze P "watched.\x69mport" 206 (zr 18)), (ze P "class._frozen_importlib.ModuleSpec" 216 (zr 22)), (ze P "sys.modules.booked-epoch" 245 (zi 4)), (ze P "\x69mport.later-laid._sre" 270 (Value.bool Bool.true)), (ze P "watched.library" 272 (zr 27)), (ze P "watched.library-objects" 0 (zs "\x0c\x1e" 0)), (ze P "watched.library-deep._sre" 273 (zs "\x04\x00\x00\x0b\x04\x00\x00\x0b\x04\x00\x00\x03\x04\x00\x00\x0b\x08\x04dict\x02" 0)), (ze P "\x69mport.loaded._collections" 280 (Value.bool Bool.true)), (ze P "sys.modules.landed._collections" 294 (Value.bool Bool.true)), (ze P "\x69mport.later-laid._collections" 309 (Value.bool Bool.true)), (ze P "watched.library-deep._collections" 311 (zs "\x04\x00\x00\x1d\x04\x00\x00\x1d\x04\x00\x00\x03\x04\x00\x00\x1d\x08\x04dict\x02" 0)), (ze P "type.__subclasses__.OSError.0" 647 (zi 111)), (ze P "type.__subclasses__.OSError.n" 648 (zi 1))] 15))
abbrev zo3 (P : Params) := (zt "dict" (Data.dict #[(ze P "__name__" 165 (zs "law_ij0188_01" 1495)), (ze P "__doc__" 166 Value.none), (ze P "__package__" 167 Value.none), (ze P "__loader__" 168 (Value.builtin "__main__.__loader__#opaque")), (ze P "__spec__" 169 Value.none), (ze P "__annotations__" 170 (zr 6)), (ze P "__builtins__" 171 (zr 4)), (ze P "__file__" 173 (zs "/claim/cut.py" 172)), (ze P "__cached__" 174 Value.none), (ze P "_sre" 275 (zr 12)), (ze P "deque" 317 (Value.type "collections.deque")), (ze P "_wall" 330 (zr 44)), (ze P "sorted_list_difference" 346 (zr 51)), (ze P "unorderable_list_difference" 356 (zr 58)), (ze P "twin_re_1_fnmatch" 394 (zr 63)), (ze P "_special_chars_map" 542 (zr 65)), (ze P "escape" 549 (zr 75)), (ze P "_translate" 570 (zr 82)), (ze P "twin_re_1_shlex" 610 (zr 87)), (ze P "_whence" 620 (zr 94)), (ze P "_index" 628 (zr 101)), (ze P "UnsupportedOperation" 650 (zr 111)), (ze P "IOBase" 682 (zr 131)), (ze P "BufferedIOBase" 700 (zr 146)), (ze P "TextIOBase" 718 (zr 158)), (ze P "BytesIO" 980 (zr 388)), (ze P "StringIO" 1267 (zr 635)), (ze P "_kind" 1278 (zr 644)), (ze P "_fspath" 1287 (zr 651)), (ze P "_check_arg_types" 1297 (zr 658)), (ze P "isabs" 1304 (zr 665)), (ze P "join" 1315 (zr 789)), (ze P "join_path" 1316 (zr 672)), (ze P "dirname" 1326 (zr 679)), (ze P "shlex" 1467 (zr 770)), (ze P "split" 1477 (zr 782)), (ze P "join_shlex" 1485 (zr 789)), (ze P "_find_unsafe" 1487 (zr 790)), (ze P "quote" 1494 (zr 797)), (ze P "_law_names" 1502 (zr 802)), (ze P "_law_words" 1508 (zr 807)), (ze P "_law_takes" 1516 (zr 814)), (ze P "_law_opened" 1522 (zr 819)), (ze P "_law_said" 1531 (zr 826)), (ze P "_law_apart" 1542 (zr 833)), (ze P "law" 1548 (zr 838))] 46))
abbrev zo4 (P : Params) := (Obj.mk (Value.type "module") (some 0) Data.plain #[])
abbrev zo5 (P : Params) := (Obj.mk (Value.type "module") (some 3) Data.plain #[])
abbrev zo6 (P : Params) := (zt "dict" (Data.dict #[] 0))
abbrev zo7 (P : Params) := (zt "tuple" (Data.seq #[] 0))
abbrev zo8 (P : Params) := (zn Value.none (Data.fields #[]))
abbrev zo9 (P : Params) := (zt "code" (Data.fields #[(zs "<module>" 176), (zs "<module>" 177), (zs "/claim/cut.py" 178), (zi 1), (zi 0), (zi 0), (zi 0), (zi 0), (zr 7), (Value.bool Bool.false), (zi 175), (zr 8), Value.none, Value.none, Value.none, Value.none, (zi 179), (zi 1), (zs "/claim/cut.py" 180)]))
abbrev zo10 (P : Params) := (Obj.mk (Value.type "frame") none Data.plain #[(some (zr 9)), (some (zr 3)), (some (zr 3)), none, (some (zs "__main__" 164)), none, (some (zr 0))])
abbrev zo11 (P : Params) := (zt "dict" (Data.dict #[(ze P "__name__" 247 (zs "_sre" 246)), (ze P "__doc__" 248 Value.none), (ze P "__package__" 250 (zs "" 249)), (ze P "__loader__" 251 (Value.builtin "off-the-table:_sre.__loader__:shared#opaque")), (ze P "__spec__" 252 (Value.builtin "off-the-table:_sre.__spec__:shared#opaque")), (ze P "compile" 253 (Value.builtin "_sre.compile")), (ze P "template" 254 (Value.builtin "off-the-table:_sre.template:shared#opaque")), (ze P "getcodesize" 255 (Value.builtin "off-the-table:_sre.getcodesize:shared#opaque")), (ze P "ascii_iscased" 256 (Value.builtin "off-the-table:_sre.ascii_iscased:shared#opaque")), (ze P "unicode_iscased" 257 (Value.builtin "off-the-table:_sre.unicode_iscased:shared#opaque")), (ze P "ascii_tolower" 258 (Value.builtin "off-the-table:_sre.ascii_tolower:shared#opaque")), (ze P "unicode_tolower" 259 (Value.builtin "off-the-table:_sre.unicode_tolower:shared#opaque")), (ze P "MAGIC" 261 (Value.int 20230612 260)), (ze P "CODESIZE" 263 (Value.int 4 262)), (ze P "MAXREPEAT" 265 (Value.int 4294967295 264)), (ze P "MAXGROUPS" 267 (Value.int 1073741823 266)), (ze P "copyright" 269 (zs " SRE 2.2.2 Copyright (c) 1997-2002 by Secret Labs AB " 268))] 17))
abbrev zo12 (P : Params) := (Obj.mk (Value.type "module") (some 11) Data.plain #[])
abbrev zo13 (P : Params) := (zt "dict" (Data.dict #[(ze P "__module__" 189 (zs "_frozen_importlib" 186)), (ze P "__firstlineno__" 190 (Value.int 971 187)), (ze P "__doc__" 191 (Value.builtin "_frozen_importlib.BuiltinImporter.__doc__:str#opaque")), (ze P "_ORIGIN" 192 (zs "built-in" 188)), (ze P "find_spec" 193 (Value.builtin "_frozen_importlib.BuiltinImporter.find_spec#opaque")), (ze P "create_module" 194 (Value.builtin "_frozen_importlib.BuiltinImporter.create_module#opaque")), (ze P "exec_module" 195 (Value.builtin "_frozen_importlib.BuiltinImporter.exec_module#opaque")), (ze P "get_code" 196 (Value.builtin "_frozen_importlib.BuiltinImporter.get_code#opaque")), (ze P "get_source" 197 (Value.builtin "_frozen_importlib.BuiltinImporter.get_source#opaque")), (ze P "is_package" 198 (Value.builtin "_frozen_importlib.BuiltinImporter.is_package#opaque")), (ze P "load_module" 199 (Value.builtin "_frozen_importlib.BuiltinImporter.load_module#opaque")), (ze P "__static_attributes__" 200 (zr 15)), (ze P "__dict__" 202 (zr 16)), (ze P "__weakref__" 204 (zr 17))] 14))
abbrev zo14 (P : Params) := (zt "type" (Data.cls (ClassData.mk (zS "BuiltinImporter") [(Value.type "object")] [(zr 14), (Value.type "object")] 13 (zS "BuiltinImporter") Bool.true [] [] Bool.false none Bool.false)))
abbrev zo15 (P : Params) := (zt "tuple" (Data.seq #[] 0))
abbrev zo16 (P : Params) := (zt "getset_descriptor" (Data.fields #[(zs "__dict__" 201), (zr 14), (Value.builtin "function.__dict__"), (Value.builtin "function.__dict__#set")]))
abbrev zo17 (P : Params) := (zt "getset_descriptor" (Data.fields #[(zs "__weakref__" 203), (zr 14), (Value.builtin "ExceptionGroup.__weakref__"), Value.none]))
abbrev zo18 (P : Params) := (zn Value.none (Data.seq #[(zi 13), (zs "\x06½\n__module__\x06º\x11_frozen_importlib\x06¾\x0f__firstlineno__\x04»\x00ϋ\x06¿\x07__doc__\t4_frozen_importlib.BuiltinImporter.__doc__:str#opaque\x06À\x07_ORIGIN\x06¼\x08built-in\x06Á\tfind_spec\t2_frozen_importlib.BuiltinImporter.find_spec#opaque\x06Â\x0dcreate_module\t6_frozen_importlib.BuiltinImporter.create_module#opaque\x06Ã\x0bexec_module\t4_frozen_importlib.BuiltinImporter.exec_module#opaque\x06Ä\x08get_code\t1_frozen_importlib.BuiltinImporter.get_code#opaque\x06Å\nget_source\t3_frozen_importlib.BuiltinImporter.get_source#opaque\x06Æ\nis_package\t3_frozen_importlib.BuiltinImporter.is_package#opaque\x06Ç\x0bload_module\t4_frozen_importlib.BuiltinImporter.load_module#opaque\x06È\x15__static_attributes__\x04\x00\x00\x0f\x06Ê\x08__dict__\x04\x00\x00\x10\x06Ì\x0b__weakref__\x04\x00\x00\x11" 0), (Value.bool Bool.true), (Value.bool Bool.true), (zs "" 205), (zi 21), (zs "\x06ã\n__module__\x06Ù\x11_frozen_importlib\x06ä\x0f__firstlineno__\x04Ú\x00Ȳ\x06å\x07__doc__\t/_frozen_importlib.ModuleSpec.__doc__:str#opaque\x06æ\x08__init__\t,_frozen_importlib.ModuleSpec.__init__#opaque\x06ç\x08__repr__\t,_frozen_importlib.ModuleSpec.__repr__#opaque\x06è\x06__eq__\t*_frozen_importlib.ModuleSpec.__eq__#opaque\x06é\x06cached\t*_frozen_importlib.ModuleSpec.cached#opaque\x06ê\x06parent\t*_frozen_importlib.ModuleSpec.parent#opaque\x06ë\x0chas_location\t0_frozen_importlib.ModuleSpec.has_location#opaque\x06ì\x15__static_attributes__\x04\x00\x00\x17\x06î\x08__dict__\x04\x00\x00\x18\x06ð\x0b__weakref__\x04\x00\x00\x19\x06ñ\x08__hash__\x00" 0), (Value.bool Bool.true), (Value.bool Bool.true), (zs "" 242)] 1))
abbrev zo19 (P : Params) := (zt "list" (Data.seq #[] 0))
abbrev zo20 (P : Params) := (zt "dict" (Data.dict #[(ze P "name" 208 (zs "_sre" 207)), (ze P "loader" 209 (zr 14)), (ze P "origin" 210 (zs "built-in" 184)), (ze P "loader_state" 211 Value.none), (ze P "submodule_search_locations" 212 Value.none), (ze P "_uninitialized_submodules" 213 (zr 19)), (ze P "_set_fileattr" 214 (Value.bool Bool.false)), (ze P "_cached" 215 Value.none), (ze P "_initializing" 243 (Value.bool Bool.false))] 9))
abbrev zo21 (P : Params) := (zt "dict" (Data.dict #[(ze P "__module__" 227 (zs "_frozen_importlib" 217)), (ze P "__firstlineno__" 228 (Value.int 562 218)), (ze P "__doc__" 229 (Value.builtin "_frozen_importlib.ModuleSpec.__doc__:str#opaque")), (ze P "__init__" 230 (Value.builtin "_frozen_importlib.ModuleSpec.__init__#opaque")), (ze P "__repr__" 231 (Value.builtin "_frozen_importlib.ModuleSpec.__repr__#opaque")), (ze P "__eq__" 232 (Value.builtin "_frozen_importlib.ModuleSpec.__eq__#opaque")), (ze P "cached" 233 (Value.builtin "_frozen_importlib.ModuleSpec.cached#opaque")), (ze P "parent" 234 (Value.builtin "_frozen_importlib.ModuleSpec.parent#opaque")), (ze P "has_location" 235 (Value.builtin "_frozen_importlib.ModuleSpec.has_location#opaque")), (ze P "__static_attributes__" 236 (zr 23)), (ze P "__dict__" 238 (zr 24)), (ze P "__weakref__" 240 (zr 25)), (ze P "__hash__" 241 Value.none)] 13))
abbrev zo22 (P : Params) := (zt "type" (Data.cls (ClassData.mk (zS "ModuleSpec") [(Value.type "object")] [(zr 22), (Value.type "object")] 21 (zS "ModuleSpec") Bool.true [] [] Bool.false none Bool.false)))
abbrev zo23 (P : Params) := (zt "tuple" (Data.seq #[(zs "_cached" 219), (zs "_set_fileattr" 220), (zs "_uninitialized_submodules" 221), (zs "loader" 222), (zs "loader_state" 223), (zs "name" 224), (zs "origin" 225), (zs "submodule_search_locations" 226)] 0))
abbrev zo24 (P : Params) := (zt "getset_descriptor" (Data.fields #[(zs "__dict__" 237), (zr 22), (Value.builtin "function.__dict__"), (Value.builtin "function.__dict__#set")]))
abbrev zo25 (P : Params) := (zt "getset_descriptor" (Data.fields #[(zs "__weakref__" 239), (zr 22), (Value.builtin "ExceptionGroup.__weakref__"), Value.none]))
abbrev zo26 (P : Params) := (Obj.mk (zr 22) (some 20) Data.plain #[])
abbrev zo27 (P : Params) := (zn Value.none (Data.seq #[(zi 11), (Value.str (Str.mk #[6, 247, 8, 95, 95, 110, 97, 109, 101, 95, 95, 6, 246, 4, 95, 115, 114, 101, 6, 248, 7, 95, 95, 100, 111, 99, 95, 95, 0, 6, 250, 11, 95, 95, 112, 97, 99, 107, 97, 103, 101, 95, 95, 6, 249, 0, 6, 251, 10, 95, 95, 108, 111, 97, 100, 101, 114, 95, 95, 4, 0, 0, 14, 6, 252, 8, 95, 95, 115, 112, 101, 99, 95, 95, 4, 0, 0, 26, 6, 253, 7, 99, 111, 109, 112, 105, 108, 101, 9, 12, 95, 115, 114, 101, 46, 99, 111, 109, 112, 105, 108, 101, 6, 254, 8, 116, 101, 109, 112, 108, 97, 116, 101, 9, 13, 95, 115, 114, 101, 46, 116, 101, 109, 112, 108, 97, 116, 101, 6, 255, 11, 103, 101, 116, 99, 111, 100, 101, 115, 105, 122, 101, 9, 16, 95, 115, 114, 101, 46, 103, 101, 116, 99, 111, 100, 101, 115, 105, 122, 101, 6, 256, 13, 97, 115, 99, 105, 105, 95, 105, 115, 99, 97, 115, 101, 100, 9, 18, 95, 115, 114, 101, 46, 97, 115, 99, 105, 105, 95, 105, 115, 99, 97, 115, 101, 100, 6, 257, 15, 117, 110, 105, 99, 111, 100, 101, 95, 105, 115, 99, 97, 115, 101, 100, 9, 20, 95, 115, 114, 101, 46, 117, 110, 105, 99, 111, 100, 101, 95, 105, 115, 99, 97, 115, 101, 100, 6, 258, 13, 97, 115, 99, 105, 105, 95, 116, 111, 108, 111, 119, 101, 114, 9, 18, 95, 115, 114, 101, 46, 97, 115, 99, 105, 105, 95, 116, 111, 108, 111, 119, 101, 114, 6, 259, 15, 117, 110, 105, 99, 111, 100, 101, 95, 116, 111, 108, 111, 119, 101, 114, 9, 20, 95, 115, 114, 101, 46, 117, 110, 105, 99, 111, 100, 101, 95, 116, 111, 108, 111, 119, 101, 114, 6, 261, 5, 77, 65, 71, 73, 67, 4, 260, 0, 20230612, 6, 263, 8, 67, 79, 68, 69, 83, 73, 90, 69, 4, 262, 0, 4, 6, 265, 9, 77, 65, 88, 82, 69, 80, 69, 65, 84, 4, 264, 0, 4294967295, 6, 267, 9, 77, 65, 88, 71, 82, 79, 85, 80, 83, 4, 266, 0, 1073741823, 6, 269, 9, 99, 111, 112, 121, 114, 105, 103, 104, 116, 6, 268, 53, 32, 83, 82, 69, 32, 50, 46, 50, 46, 50, 32, 67, 111, 112, 121, 114, 105, 103, 104, 116, 32, 40, 99, 41, 32, 49, 57, 57, 55, 45, 50, 48, 48, 50, 32, 98, 121, 32, 83, 101, 99, 114, 101, 116, 32, 76, 97, 98, 115, 32, 65, 66, 32]) 0), (Value.bool Bool.true), (Value.bool Bool.false), (zs "_sre" 271), (zi 29), (zs "\x06Ĩ\x08__name__\x06ħ\x0c_collections\x06ĩ\x07__doc__\t\x1f_collections.__doc__:str#opaque\x06ī\x0b__package__\x06Ī\x00\x06Ĭ\n__loader__\x04\x00\x00\x0e\x06ĭ\x08__spec__\x04\x00\x00!\x06Į\x0f_count_elements\t\x1c_collections._count_elements\x06į\x05deque\x08\x11collections.deque\x06İ\x0bdefaultdict\x08\x17collections.defaultdict\x06ı\x0f_deque_iterator\x08\x1bcollections._deque_iterator\x06Ĳ\x17_deque_reverse_iterator\x08#collections._deque_reverse_iterator\x06ĳ\x0c_tuplegetter\x08\x18collections._tuplegetter\x06Ĵ\x0bOrderedDict\x08\x17collections.OrderedDict" 0), (Value.bool Bool.true), (Value.bool Bool.false), (zs "_collections" 310)] 1))
abbrev zo28 (P : Params) := (zt "tuple" (Data.seq #[(zs "deque" 277)] 0))
abbrev zo29 (P : Params) := (zt "dict" (Data.dict #[(ze P "__name__" 296 (zs "_collections" 295)), (ze P "__doc__" 297 (Value.builtin "off-the-table:_collections.__doc__:shared#opaque")), (ze P "__package__" 299 (zs "" 298)), (ze P "__loader__" 300 (Value.builtin "off-the-table:_collections.__loader__:shared#opaque")), (ze P "__spec__" 301 (Value.builtin "off-the-table:_collections.__spec__:shared#opaque")), (ze P "_count_elements" 302 (Value.builtin "_collections._count_elements")), (ze P "deque" 303 (Value.type "collections.deque")), (ze P "defaultdict" 304 (Value.type "collections.defaultdict")), (ze P "_deque_iterator" 305 (Value.builtin "off-the-table:_collections._deque_iterator:shared#opaque")), (ze P "_deque_reverse_iterator" 306 (Value.builtin "off-the-table:_collections._deque_reverse_iterator:shared#opaque")), (ze P "_tuplegetter" 307 (Value.type "collections._tuplegetter")), (ze P "OrderedDict" 308 (Value.type "collections.OrderedDict"))] 12))
abbrev zo30 (P : Params) := (Obj.mk (Value.type "module") (some 29) Data.plain #[])
abbrev zo31 (P : Params) := (zt "list" (Data.seq #[] 0))
abbrev zo32 (P : Params) := (zt "dict" (Data.dict #[(ze P "name" 283 (zs "_collections" 282)), (ze P "loader" 284 (zr 14)), (ze P "origin" 285 (zs "built-in" 281)), (ze P "loader_state" 286 Value.none), (ze P "submodule_search_locations" 287 Value.none), (ze P "_uninitialized_submodules" 288 (zr 31)), (ze P "_set_fileattr" 289 (Value.bool Bool.false)), (ze P "_cached" 290 Value.none), (ze P "_initializing" 291 (Value.bool Bool.false))] 9))
abbrev zo33 (P : Params) := (Obj.mk (zr 22) (some 32) Data.plain #[])
abbrev zo34 (P : Params) := (zt "tuple" (Data.seq #[] 0))
abbrev zo35 (P : Params) := (zn Value.none (Data.fields #[(zi 3), (zi 0), (zr 43), (zi 7), (zi 0), (zr 50), (zi 39), (zi 0), (zr 57), (zi 51), (zi 0), (zr 74), (zi 58), (zi 0), (zr 81), (zi 122), (zi 0), (zr 93), (zi 127), (zi 0), (zr 100), (zi 134), (zi 0), (zr 107), (zi 136), (zi 0), (zr 120), (zi 143), (zi 0), (zr 142), (zi 145), (zi 0), (zr 154), (zi 147), (zi 0), (zr 166), (zi 317), (zi 0), (zr 396), (zi 523), (zi 0), (zr 643), (zi 544), (zi 0), (zr 650), (zi 549), (zi 0), (zr 657), (zi 554), (zi 0), (zr 664), (zi 557), (zi 0), (zr 671), (zi 578), (zi 0), (zr 678), (zi 587), (zi 0), (zr 685), (zi 839), (zi 0), (zr 781), (zi 847), (zi 0), (zr 788), (zi 851), (zi 0), (zr 796), (zi 858), (zi 0), (zr 801), (zi 865), (zi 0), (zr 806), (zi 868), (zi 0), (zr 813), (zi 874), (zi 0), (zr 818), (zi 889), (zi 0), (zr 825), (zi 893), (zi 0), (zr 832), (zi 903), (zi 0), (zr 837)]))
abbrev zo36 (P : Params) := (zt "code" (Data.fields #[(zs "<module>" 319), (zs "<module>" 320), (zs "/claim/cut.py" 321), (zi 1), (zi 0), (zi 0), (zi 0), (zi 0), (zr 34), (Value.bool Bool.false), (zi 318), (zr 35), Value.none, Value.none, Value.none, Value.none, (zi 322), (zi 1), (zs "/claim/cut.py" 323)]))
abbrev zo37 (P : Params) := (Obj.mk (Value.type "frame") none Data.plain #[(some (zr 36)), (some (zr 3)), (some (zr 3)), none, (some (zs "__main__" 164)), none, (some (zr 0))])
abbrev zo38 (P : Params) := (zt "tuple" (Data.seq #[] 0))
abbrev zo39 (P : Params) := (zn Value.none (Data.fields #[]))
abbrev zo40 (P : Params) := (zt "tuple" (Data.seq #[(zs "k" 327)] 0))
abbrev zo41 (P : Params) := (zt "tuple" (Data.seq #[] 0))
abbrev zo42 (P : Params) := (zn Value.none (Data.func (FuncData.mk (zS "_wall") (zS "_wall") (tA (tM 2)) (tB (tM 2)) (tG (tM 2)) 0 [] Value.none Value.none Value.none Value.none none Value.none Value.none 0)))
abbrev zo43 (P : Params) := (zt "code" (Data.fields #[(zs "_wall" 324), (zs "_wall" 325), (zs "/claim/cut.py" 326), (zi 3), (zi 1), (zi 0), (zi 0), (zi 3), (zr 38), (Value.bool Bool.true), (zi 318), (zr 39), Value.none, (zr 40), (zr 41), (zr 42), (zi 328), (zi 3), (zs "/claim/cut.py" 329)]))
abbrev zo44 (P : Params) := (zt "function" (Data.func (FuncData.mk (zS "_wall") (zS "_wall") (tA (tM 2)) (tB (tM 2)) (tG (tM 2)) 3 [] Value.none Value.none Value.none (zs "__main__" 164) none (zr 43) Value.none 0)))
abbrev zo45 (P : Params) := (zt "tuple" (Data.seq #[] 0))
abbrev zo46 (P : Params) := (zn Value.none (Data.fields #[]))
abbrev zo47 (P : Params) := (zt "tuple" (Data.seq #[(zs "expected" 336), (zs "actual" 337), (zs "i" 338), (zs "j" 339), (zs "missing" 340), (zs "unexpected" 341), (zs "e" 342), (zs "a" 343)] 0))
abbrev zo48 (P : Params) := (zt "tuple" (Data.seq #[] 0))
abbrev zo49 (P : Params) := (zn Value.none (Data.func (FuncData.mk (zS "sorted_list_difference") (zS "sorted_list_difference") (tA (tM 4)) (tB (tM 4)) (tG (tM 4)) 0 [] Value.none Value.none Value.none Value.none none Value.none Value.none 0)))
abbrev zo50 (P : Params) := (zt "code" (Data.fields #[(zs "sorted_list_difference" 333), (zs "sorted_list_difference" 334), (zs "/claim/cut.py" 335), (zi 7), (zi 2), (zi 0), (zi 0), (zi 3), (zr 45), (Value.bool Bool.true), (zi 318), (zr 46), Value.none, (zr 47), (zr 48), (zr 49), (zi 344), (zi 7), (zs "/claim/cut.py" 345)]))
abbrev zo51 (P : Params) := (zt "function" (Data.func (FuncData.mk (zS "sorted_list_difference") (zS "sorted_list_difference") (tA (tM 4)) (tB (tM 4)) (tG (tM 4)) 3 [] Value.none Value.none Value.none (zs "cpy313.unittest.util" 331) none (zr 50) Value.none 0)))
abbrev zo52 (P : Params) := (zt "tuple" (Data.seq #[] 0))
abbrev zo53 (P : Params) := (zn Value.none (Data.fields #[]))
abbrev zo54 (P : Params) := (zt "tuple" (Data.seq #[(zs "expected" 350), (zs "actual" 351), (zs "missing" 352), (zs "item" 353)] 0))
abbrev zo55 (P : Params) := (zt "tuple" (Data.seq #[] 0))
abbrev zo56 (P : Params) := (zn Value.none (Data.func (FuncData.mk (zS "unorderable_list_difference") (zS "unorderable_list_difference") (tA (tM 5)) (tB (tM 5)) (tG (tM 5)) 0 [] Value.none Value.none Value.none Value.none none Value.none Value.none 0)))
abbrev zo57 (P : Params) := (zt "code" (Data.fields #[(zs "unorderable_list_difference" 347), (zs "unorderable_list_difference" 348), (zs "/claim/cut.py" 349), (zi 39), (zi 2), (zi 0), (zi 0), (zi 3), (zr 52), (Value.bool Bool.true), (zi 318), (zr 53), Value.none, (zr 54), (zr 55), (zr 56), (zi 354), (zi 39), (zs "/claim/cut.py" 355)]))
abbrev zo58 (P : Params) := (zt "function" (Data.func (FuncData.mk (zS "unorderable_list_difference") (zS "unorderable_list_difference") (tA (tM 5)) (tB (tM 5)) (tG (tM 5)) 3 [] Value.none Value.none Value.none (zs "cpy313.unittest.util" 331) none (zr 57) Value.none 0)))
abbrev zo59 (P : Params) := (zt "list" (Data.seq #[(Value.int 14 360), (Value.int 14 361), (Value.int 4 362), (Value.int 1 363), (Value.int 1 364), (Value.int 9 365), (Value.int 0 366), (Value.int 64 367), (Value.int 0 368), (Value.int 1342177280 369), (Value.int 0 370), (Value.int 0 371), (Value.int 0 372), (Value.int 0 373), (Value.int 0 374), (Value.int 17 375), (Value.int 0 376), (Value.int 13 377), (Value.int 11 378), (Value.int 9 379), (Value.int 0 380), (Value.int 64 381), (Value.int 0 382), (Value.int 1342177280 383), (Value.int 0 384), (Value.int 0 385), (Value.int 0 386), (Value.int 0 387), (Value.int 0 388), (Value.int 17 389), (Value.int 1 390), (Value.int 1 391)] 0))
abbrev zo60 (P : Params) := (zt "dict" (Data.dict #[] 0))
abbrev zo61 (P : Params) := (zt "tuple" (Data.seq #[Value.none, Value.none] 0))
abbrev zo62 (P : Params) := (zt "tuple" (Data.seq #[(zi 14), (zi 14), (zi 4), (zi 1), (zi 1), (zi 9), (zi 0), (zi 64), (zi 0), (zi 1342177280), (zi 0), (zi 0), (zi 0), (zi 0), (zi 0), (zi 17), (zi 0), (zi 13), (zi 11), (zi 9), (zi 0), (zi 64), (zi 0), (zi 1342177280), (zi 0), (zi 0), (zi 0), (zi 0), (zi 0), (zi 17), (zi 1), (zi 1)] 0))
abbrev zo63 (P : Params) := (zt "re.Pattern" (Data.fields #[(zs "([&~|])" 358), (Value.int 32 393), (zi 1), Value.none, Value.none, (zr 62), (zi 0)]))
abbrev zo64 (P : Params) := (zt "bytes_iterator" (Data.fields #[Value.none, (zi 24)]))
abbrev zo65 (P : Params) := (zt "dict" (Data.dict #[(DictEntry.mk (40 : Int) (Value.int 40 398) (zs "\\(" 402)), (DictEntry.mk (41 : Int) (Value.int 41 404) (zs "\\)" 408)), (DictEntry.mk (91 : Int) (Value.int 91 410) (zs "\\[" 414)), (DictEntry.mk (93 : Int) (Value.int 93 416) (zs "\\]" 420)), (DictEntry.mk (123 : Int) (Value.int 123 422) (zs "\\{" 426)), (DictEntry.mk (125 : Int) (Value.int 125 428) (zs "\\}" 432)), (DictEntry.mk (63 : Int) (Value.int 63 434) (zs "\\?" 438)), (DictEntry.mk (42 : Int) (Value.int 42 440) (zs "\\*" 444)), (DictEntry.mk (43 : Int) (Value.int 43 446) (zs "\\+" 450)), (DictEntry.mk (45 : Int) (Value.int 45 452) (zs "\\-" 456)), (DictEntry.mk (124 : Int) (Value.int 124 458) (zs "\\|" 462)), (DictEntry.mk (94 : Int) (Value.int 94 464) (zs "\\^" 468)), (DictEntry.mk (36 : Int) (Value.int 36 470) (zs "\\$" 474)), (DictEntry.mk (92 : Int) (Value.int 92 476) (zs "\\\\" 480)), (DictEntry.mk (46 : Int) (Value.int 46 482) (zs "\\." 486)), (DictEntry.mk (38 : Int) (Value.int 38 488) (zs "\\&" 492)), (DictEntry.mk (126 : Int) (Value.int 126 494) (zs "\\~" 498)), (DictEntry.mk (35 : Int) (Value.int 35 500) (zs "\\#" 504)), (DictEntry.mk (32 : Int) (Value.int 32 506) (zs "\\ " 510)), (DictEntry.mk (9 : Int) (Value.int 9 512) (zs "\\\t" 516)), (DictEntry.mk (10 : Int) (Value.int 10 518) (zs "\\\n" 522)), (DictEntry.mk (13 : Int) (Value.int 13 524) (zs "\\\x0d" 528)), (DictEntry.mk (11 : Int) (Value.int 11 530) (zs "\\\x0b" 534)), (DictEntry.mk (12 : Int) (Value.int 12 536) (zs "\\\x0c" 540))] 24))
abbrev zo66 (P : Params) := (zt "dict" (Data.dict #[] 2))
abbrev zo67 (P : Params) := (zt "tuple" (Data.seq #[] 0))
abbrev zo68 (P : Params) := (zt "StopIteration" (Data.fields #[(zr 67), Value.none, Value.none, Value.none, (Value.bool Bool.false), Value.none]))
abbrev zo69 (P : Params) := (zt "tuple" (Data.seq #[] 0))
abbrev zo70 (P : Params) := (zn Value.none (Data.fields #[]))
abbrev zo71 (P : Params) := (zt "tuple" (Data.seq #[(zs "pattern" 546)] 0))
abbrev zo72 (P : Params) := (zt "tuple" (Data.seq #[] 0))
abbrev zo73 (P : Params) := (zn Value.none (Data.func (FuncData.mk (zS "escape") (zS "escape") (tA (tM 9)) (tB (tM 9)) (tG (tM 9)) 0 [] Value.none Value.none Value.none Value.none none Value.none Value.none 0)))
abbrev zo74 (P : Params) := (zt "code" (Data.fields #[(zs "escape" 543), (zs "escape" 544), (zs "/claim/cut.py" 545), (zi 51), (zi 1), (zi 0), (zi 0), (zi 3), (zr 69), (Value.bool Bool.true), (zi 318), (zr 70), Value.none, (zr 71), (zr 72), (zr 73), (zi 547), (zi 51), (zs "/claim/cut.py" 548)]))
abbrev zo75 (P : Params) := (zt "function" (Data.func (FuncData.mk (zS "escape") (zS "escape") (tA (tM 9)) (tB (tM 9)) (tG (tM 9)) 3 [] Value.none Value.none Value.none (zs "re" 395) none (zr 74) Value.none 0)))
abbrev zo76 (P : Params) := (zt "tuple" (Data.seq #[] 0))
abbrev zo77 (P : Params) := (zn Value.none (Data.fields #[]))
abbrev zo78 (P : Params) := (zt "tuple" (Data.seq #[(zs "pat" 555), (zs "STAR" 556), (zs "QUESTION_MARK" 557), (zs "res" 558), (zs "add" 559), (zs "i" 560), (zs "n" 561), (zs "c" 562), (zs "j" 563), (zs "stuff" 564), (zs "chunks" 565), (zs "k" 566), (zs "chunk" 567)] 0))
abbrev zo79 (P : Params) := (zt "tuple" (Data.seq #[] 0))
abbrev zo80 (P : Params) := (zn Value.none (Data.func (FuncData.mk (zS "_translate") (zS "_translate") (tA (tM 11)) (tB (tM 11)) (tG (tM 11)) 0 [] Value.none Value.none Value.none Value.none none Value.none Value.none 0)))
abbrev zo81 (P : Params) := (zt "code" (Data.fields #[(zs "_translate" 552), (zs "_translate" 553), (zs "/claim/cut.py" 554), (zi 58), (zi 3), (zi 0), (zi 0), (zi 3), (zr 76), (Value.bool Bool.true), (zi 318), (zr 77), Value.none, (zr 78), (zr 79), (zr 80), (zi 568), (zi 58), (zs "/claim/cut.py" 569)]))
abbrev zo82 (P : Params) := (zt "function" (Data.func (FuncData.mk (zS "_translate") (zS "_translate") (tA (tM 11)) (tB (tM 11)) (tG (tM 11)) 3 [] Value.none Value.none Value.none (zs "cpy313.fnmatch" 550) none (zr 81) Value.none 0)))
abbrev zo83 (P : Params) := (zt "list" (Data.seq #[(Value.int 14 574), (Value.int 17 575), (Value.int 4 576), (Value.int 1 577), (Value.int 1 578), (Value.int 21 579), (Value.int 9 580), (Value.int 0 581), (Value.int 604043296 582), (Value.int 1 583), (Value.int 0 584), (Value.int 0 585), (Value.int 0 586), (Value.int 0 587), (Value.int 0 588), (Value.int 8 589), (Value.int 4 590), (Value.int 0 591), (Value.int 13 592), (Value.int 14 593), (Value.int 21 594), (Value.int 9 595), (Value.int 0 596), (Value.int 604043296 597), (Value.int 1 598), (Value.int 0 599), (Value.int 0 600), (Value.int 0 601), (Value.int 0 602), (Value.int 0 603), (Value.int 8 604), (Value.int 4 605), (Value.int 0 606), (Value.int 1 607)] 0))
abbrev zo84 (P : Params) := (zt "dict" (Data.dict #[] 0))
abbrev zo85 (P : Params) := (zt "tuple" (Data.seq #[Value.none] 0))
abbrev zo86 (P : Params) := (zt "tuple" (Data.seq #[(zi 14), (zi 17), (zi 4), (zi 1), (zi 1), (zi 21), (zi 9), (zi 0), (zi 604043296), (zi 1), (zi 0), (zi 0), (zi 0), (zi 0), (zi 0), (zi 8), (zi 4), (zi 0), (zi 13), (zi 14), (zi 21), (zi 9), (zi 0), (zi 604043296), (zi 1), (zi 0), (zi 0), (zi 0), (zi 0), (zi 0), (zi 8), (zi 4), (zi 0), (zi 1)] 0))
abbrev zo87 (P : Params) := (zt "re.Pattern" (Data.fields #[(zs "[^\\w@%+=:,./-]" 572), (Value.int 256 609), (zi 0), Value.none, Value.none, (zr 86), (zi 0)]))
abbrev zo88 (P : Params) := (zt "tuple" (Data.seq #[] 0))
abbrev zo89 (P : Params) := (zn Value.none (Data.fields #[]))
abbrev zo90 (P : Params) := (zt "tuple" (Data.seq #[(zs "n" 616), (zs "what" 617)] 0))
abbrev zo91 (P : Params) := (zt "tuple" (Data.seq #[] 0))
abbrev zo92 (P : Params) := (zn Value.none (Data.func (FuncData.mk (zS "_whence") (zS "_whence") (tA (tM 14)) (tB (tM 14)) (tG (tM 14)) 0 [] Value.none Value.none Value.none Value.none none Value.none Value.none 0)))
abbrev zo93 (P : Params) := (zt "code" (Data.fields #[(zs "_whence" 613), (zs "_whence" 614), (zs "/claim/cut.py" 615), (zi 122), (zi 2), (zi 0), (zi 0), (zi 3), (zr 88), (Value.bool Bool.true), (zi 318), (zr 89), Value.none, (zr 90), (zr 91), (zr 92), (zi 618), (zi 122), (zs "/claim/cut.py" 619)]))
abbrev zo94 (P : Params) := (zt "function" (Data.func (FuncData.mk (zS "_whence") (zS "_whence") (tA (tM 14)) (tB (tM 14)) (tG (tM 14)) 3 [] Value.none Value.none Value.none (zs "io" 611) none (zr 93) Value.none 0)))
abbrev zo95 (P : Params) := (zt "tuple" (Data.seq #[] 0))
abbrev zo96 (P : Params) := (zn Value.none (Data.fields #[]))
abbrev zo97 (P : Params) := (zt "tuple" (Data.seq #[(zs "n" 624), (zs "what" 625)] 0))
abbrev zo98 (P : Params) := (zt "tuple" (Data.seq #[] 0))
abbrev zo99 (P : Params) := (zn Value.none (Data.func (FuncData.mk (zS "_index") (zS "_index") (tA (tM 15)) (tB (tM 15)) (tG (tM 15)) 0 [] Value.none Value.none Value.none Value.none none Value.none Value.none 0)))
abbrev zo100 (P : Params) := (zt "code" (Data.fields #[(zs "_index" 621), (zs "_index" 622), (zs "/claim/cut.py" 623), (zi 127), (zi 2), (zi 0), (zi 0), (zi 3), (zr 95), (Value.bool Bool.true), (zi 318), (zr 96), Value.none, (zr 97), (zr 98), (zr 99), (zi 626), (zi 127), (zs "/claim/cut.py" 627)]))
abbrev zo101 (P : Params) := (zt "function" (Data.func (FuncData.mk (zS "_index") (zS "_index") (tA (tM 15)) (tB (tM 15)) (tG (tM 15)) 3 [] Value.none Value.none Value.none (zs "io" 611) none (zr 100) Value.none 0)))
abbrev zo102 (P : Params) := (zt "tuple" (Data.seq #[(Value.type "OSError"), (Value.type "ValueError")] 0))
abbrev zo103 (P : Params) := (zt "builtin_function_or_method" (Data.fields #[(Value.builtin "type.__prepare__"), (Value.type "type")]))
abbrev zo104 (P : Params) := (zt "dict" (Data.dict #[(ze P "__module__" 636 (zs "io" 641)), (ze P "__qualname__" 638 (zs "UnsupportedOperation" 637)), (ze P "__firstlineno__" 640 (Value.int 134 639)), (ze P "__static_attributes__" 643 (zr 109))] 4))
abbrev zo105 (P : Params) := (zt "tuple" (Data.seq #[] 0))
abbrev zo106 (P : Params) := (zn Value.none (Data.fields #[]))
abbrev zo107 (P : Params) := (zt "code" (Data.fields #[(zs "UnsupportedOperation" 631), (zs "UnsupportedOperation" 632), (zs "/claim/cut.py" 633), (zi 134), (zi 0), (zi 0), (zi 0), (zi 0), (zr 105), (Value.bool Bool.false), (zi 318), (zr 106), Value.none, Value.none, Value.none, Value.none, (zi 634), (zi 134), (zs "/claim/cut.py" 635)]))
abbrev zo108 (P : Params) := (Obj.mk (Value.type "frame") none Data.plain #[(some (zr 107)), (some (zr 3)), (some (zr 104)), none, (some (zs "io" 611)), none, (some (zr 0))])
abbrev zo109 (P : Params) := (zt "tuple" (Data.seq #[] 0))
abbrev zo110 (P : Params) := (zt "dict" (Data.dict #[(ze P "__module__" 636 (zs "io" 641)), (ze P "__firstlineno__" 640 (Value.int 134 639)), (ze P "__static_attributes__" 643 (zr 109)), (ze P "__weakref__" 645 (zr 112)), (ze P "__doc__" 646 Value.none)] 3))
abbrev zo111 (P : Params) := (Obj.mk (Value.type "type") none (Data.cls (ClassData.mk (zS "UnsupportedOperation") [(Value.type "OSError"), (Value.type "ValueError")] [(zr 111), (Value.type "OSError"), (Value.type "ValueError"), (Value.type "Exception"), (Value.type "BaseException"), (Value.type "object")] 110 (zS "UnsupportedOperation") Bool.true [] [] Bool.false none Bool.false)) #[(some (zr 102)), none, (some (zs "UnsupportedOperation" 629)), (some (zs "UnsupportedOperation" 637)), (some (Value.builtin "OSError.__new__")), (some (Value.bool Bool.true))])
abbrev zo112 (P : Params) := (zt "getset_descriptor" (Data.fields #[(zs "__weakref__" 644), (zr 111), (Value.builtin "ExceptionGroup.__weakref__"), Value.none]))
abbrev zo113 (P : Params) := (zt "super" (Data.fields #[(zr 111), (zr 111), (zr 111)]))
abbrev zo114 (P : Params) := (zt "builtin_function_or_method" (Data.fields #[(Value.builtin "object.__init_subclass__"), (zr 111)]))
abbrev zo115 (P : Params) := (zt "tuple" (Data.seq #[] 0))
abbrev zo116 (P : Params) := (zt "builtin_function_or_method" (Data.fields #[(Value.builtin "type.__prepare__"), (Value.type "type")]))
abbrev zo117 (P : Params) := (zt "dict" (Data.dict #[(ze P "__module__" 658 (zs "io" 663)), (ze P "__qualname__" 660 (zs "IOBase" 659)), (ze P "__firstlineno__" 662 (Value.int 136 661)), (ze P "__new__" 673 (zr 128)), (ze P "__static_attributes__" 674 (zr 129))] 5))
abbrev zo118 (P : Params) := (zt "tuple" (Data.seq #[] 0))
abbrev zo119 (P : Params) := (zn Value.none (Data.fields #[(zi 139), (zi 4), (zr 127)]))
abbrev zo120 (P : Params) := (zt "code" (Data.fields #[(zs "IOBase" 653), (zs "IOBase" 654), (zs "/claim/cut.py" 655), (zi 136), (zi 0), (zi 0), (zi 0), (zi 0), (zr 118), (Value.bool Bool.false), (zi 318), (zr 119), Value.none, Value.none, Value.none, Value.none, (zi 656), (zi 136), (zs "/claim/cut.py" 657)]))
abbrev zo121 (P : Params) := (Obj.mk (Value.type "frame") none Data.plain #[(some (zr 120)), (some (zr 3)), (some (zr 117)), none, (some (zs "io" 611)), none, (some (zr 0))])
abbrev zo122 (P : Params) := (zt "tuple" (Data.seq #[] 0))
abbrev zo123 (P : Params) := (zn Value.none (Data.fields #[]))
abbrev zo124 (P : Params) := (zt "tuple" (Data.seq #[(zs "cls" 668), (zs "args" 669), (zs "kwargs" 670)] 0))
abbrev zo125 (P : Params) := (zt "tuple" (Data.seq #[] 0))
abbrev zo126 (P : Params) := (zn Value.none (Data.func (FuncData.mk (zS "__new__") (zS "IOBase.__new__") (tA (tC (tM 17) 1)) (tB (tC (tM 17) 1)) (tG (tC (tM 17) 1)) 0 [] Value.none Value.none Value.none Value.none none Value.none Value.none 0)))
abbrev zo127 (P : Params) := (zt "code" (Data.fields #[(zs "__new__" 665), (zs "IOBase.__new__" 666), (zs "/claim/cut.py" 667), (zi 139), (zi 1), (zi 1), (zi 0), (zi 15), (zr 122), (Value.bool Bool.true), (zi 318), (zr 123), Value.none, (zr 124), (zr 125), (zr 126), (zi 671), (zi 139), (zs "/claim/cut.py" 672)]))
abbrev zo128 (P : Params) := (zt "function" (Data.func (FuncData.mk (zS "__new__") (zS "IOBase.__new__") (tA (tC (tM 17) 1)) (tB (tC (tM 17) 1)) (tG (tC (tM 17) 1)) 3 [] Value.none Value.none Value.none (zs "io" 611) none (zr 127) Value.none 0)))
abbrev zo129 (P : Params) := (zt "tuple" (Data.seq #[] 0))
abbrev zo130 (P : Params) := (zt "dict" (Data.dict #[(ze P "__module__" 658 (zs "io" 663)), (ze P "__firstlineno__" 662 (Value.int 136 661)), (ze P "__new__" 673 (zr 132)), (ze P "__static_attributes__" 674 (zr 129)), (ze P "__dict__" 677 (zr 133)), (ze P "__weakref__" 679 (zr 134)), (ze P "__doc__" 680 Value.none)] 4))
abbrev zo131 (P : Params) := (Obj.mk (Value.type "type") none (Data.cls (ClassData.mk (zS "IOBase") [(Value.type "object")] [(zr 131), (Value.type "object")] 130 (zS "IOBase") Bool.true [] [(zr 146), (zr 158)] Bool.false none Bool.false)) #[none, none, (some (zs "IOBase" 651)), (some (zs "IOBase" 659)), (some Value.none), (some (Value.bool Bool.true))])
abbrev zo132 (P : Params) := (zt "staticmethod" (Data.fields #[(zr 128)]))
abbrev zo133 (P : Params) := (zt "getset_descriptor" (Data.fields #[(zs "__dict__" 676), (zr 131), (Value.builtin "function.__dict__"), (Value.builtin "function.__dict__#set")]))
abbrev zo134 (P : Params) := (zt "getset_descriptor" (Data.fields #[(zs "__weakref__" 678), (zr 131), (Value.builtin "ExceptionGroup.__weakref__"), Value.none]))
abbrev zo135 (P : Params) := (zt "super" (Data.fields #[(zr 131), (zr 131), (zr 131)]))
abbrev zo136 (P : Params) := (zt "builtin_function_or_method" (Data.fields #[(Value.builtin "object.__init_subclass__"), (zr 131)]))
abbrev zo137 (P : Params) := (zt "tuple" (Data.seq #[(zr 131)] 0))
abbrev zo138 (P : Params) := (zt "builtin_function_or_method" (Data.fields #[(Value.builtin "type.__prepare__"), (Value.type "type")]))
abbrev zo139 (P : Params) := (zt "dict" (Data.dict #[(ze P "__module__" 690 (zs "io" 695)), (ze P "__qualname__" 692 (zs "BufferedIOBase" 691)), (ze P "__firstlineno__" 694 (Value.int 143 693)), (ze P "__static_attributes__" 697 (zr 144))] 4))
abbrev zo140 (P : Params) := (zt "tuple" (Data.seq #[] 0))
abbrev zo141 (P : Params) := (zn Value.none (Data.fields #[]))
abbrev zo142 (P : Params) := (zt "code" (Data.fields #[(zs "BufferedIOBase" 685), (zs "BufferedIOBase" 686), (zs "/claim/cut.py" 687), (zi 143), (zi 0), (zi 0), (zi 0), (zi 0), (zr 140), (Value.bool Bool.false), (zi 318), (zr 141), Value.none, Value.none, Value.none, Value.none, (zi 688), (zi 143), (zs "/claim/cut.py" 689)]))
abbrev zo143 (P : Params) := (Obj.mk (Value.type "frame") none Data.plain #[(some (zr 142)), (some (zr 3)), (some (zr 139)), none, (some (zs "io" 611)), none, (some (zr 0))])
abbrev zo144 (P : Params) := (zt "tuple" (Data.seq #[] 0))
abbrev zo145 (P : Params) := (zt "dict" (Data.dict #[(ze P "__module__" 690 (zs "io" 695)), (ze P "__firstlineno__" 694 (Value.int 143 693)), (ze P "__static_attributes__" 697 (zr 144)), (ze P "__doc__" 698 Value.none)] 2))
abbrev zo146 (P : Params) := (Obj.mk (Value.type "type") none (Data.cls (ClassData.mk (zS "BufferedIOBase") [(zr 131)] [(zr 146), (zr 131), (Value.type "object")] 145 (zS "BufferedIOBase") Bool.true [] [(zr 388)] Bool.false none Bool.false)) #[(some (zr 137)), none, (some (zs "BufferedIOBase" 683)), (some (zs "BufferedIOBase" 691)), (some Value.none), (some (Value.bool Bool.true))])
abbrev zo147 (P : Params) := (zt "super" (Data.fields #[(zr 146), (zr 146), (zr 146)]))
abbrev zo148 (P : Params) := (zt "builtin_function_or_method" (Data.fields #[(Value.builtin "object.__init_subclass__"), (zr 146)]))
abbrev zo149 (P : Params) := (zt "tuple" (Data.seq #[(zr 131)] 0))
abbrev zo150 (P : Params) := (zt "builtin_function_or_method" (Data.fields #[(Value.builtin "type.__prepare__"), (Value.type "type")]))
abbrev zo151 (P : Params) := (zt "dict" (Data.dict #[(ze P "__module__" 708 (zs "io" 713)), (ze P "__qualname__" 710 (zs "TextIOBase" 709)), (ze P "__firstlineno__" 712 (Value.int 145 711)), (ze P "__static_attributes__" 715 (zr 156))] 4))
abbrev zo152 (P : Params) := (zt "tuple" (Data.seq #[] 0))
abbrev zo153 (P : Params) := (zn Value.none (Data.fields #[]))
abbrev zo154 (P : Params) := (zt "code" (Data.fields #[(zs "TextIOBase" 703), (zs "TextIOBase" 704), (zs "/claim/cut.py" 705), (zi 145), (zi 0), (zi 0), (zi 0), (zi 0), (zr 152), (Value.bool Bool.false), (zi 318), (zr 153), Value.none, Value.none, Value.none, Value.none, (zi 706), (zi 145), (zs "/claim/cut.py" 707)]))
abbrev zo155 (P : Params) := (Obj.mk (Value.type "frame") none Data.plain #[(some (zr 154)), (some (zr 3)), (some (zr 151)), none, (some (zs "io" 611)), none, (some (zr 0))])
abbrev zo156 (P : Params) := (zt "tuple" (Data.seq #[] 0))
abbrev zo157 (P : Params) := (zt "dict" (Data.dict #[(ze P "__module__" 708 (zs "io" 713)), (ze P "__firstlineno__" 712 (Value.int 145 711)), (ze P "__static_attributes__" 715 (zr 156)), (ze P "__doc__" 716 Value.none)] 2))
abbrev zo158 (P : Params) := (Obj.mk (Value.type "type") none (Data.cls (ClassData.mk (zS "TextIOBase") [(zr 131)] [(zr 158), (zr 131), (Value.type "object")] 157 (zS "TextIOBase") Bool.true [] [(zr 635)] Bool.false none Bool.false)) #[(some (zr 149)), none, (some (zs "TextIOBase" 701)), (some (zs "TextIOBase" 709)), (some Value.none), (some (Value.bool Bool.true))])
abbrev zo159 (P : Params) := (zt "super" (Data.fields #[(zr 158), (zr 158), (zr 158)]))
abbrev zo160 (P : Params) := (zt "builtin_function_or_method" (Data.fields #[(Value.builtin "object.__init_subclass__"), (zr 158)]))
abbrev zo161 (P : Params) := (zt "tuple" (Data.seq #[(zr 146)] 0))
abbrev zo162 (P : Params) := (zt "builtin_function_or_method" (Data.fields #[(Value.builtin "type.__prepare__"), (Value.type "type")]))
abbrev zo163 (P : Params) := (zt "dict" (Data.dict #[(ze P "__module__" 726 (zs "_io" 731)), (ze P "__qualname__" 728 (zs "BytesIO" 727)), (ze P "__firstlineno__" 730 (Value.int 147 729)), (ze P "__init__" 740 (zr 175)), (ze P "_BytesIO__check" 747 (zr 182)), (ze P "_BytesIO__line" 758 (zr 189)), (ze P "closed" 766 (zr 197)), (ze P "close" 773 (zr 204)), (ze P "__enter__" 780 (zr 211)), (ze P "__exit__" 788 (zr 218)), (ze P "readable" 795 (zr 225)), (ze P "writable" 802 (zr 232)), (ze P "seekable" 809 (zr 239)), (ze P "isatty" 816 (zr 246)), (ze P "flush" 823 (zr 253)), (ze P "fileno" 830 (zr 260)), (ze P "detach" 837 (zr 267)), (ze P "getvalue" 844 (zr 274)), (ze P "getbuffer" 851 (zr 281)), (ze P "tell" 858 (zr 288)), (ze P "seek" 868 (zr 296)), (ze P "truncate" 876 (zr 304)), (ze P "read" 888 (zr 312)), (ze P "read1" 898 (zr 320)), (ze P "readinto" 908 (zr 327)), (ze P "readinto1" 916 (zr 334)), (ze P "readline" 926 (zr 342)), (ze P "readlines" 934 (zr 350)), (ze P "__iter__" 941 (zr 357)), (ze P "__next__" 949 (zr 364)), (ze P "write" 959 (zr 371)), (ze P "writelines" 967 (zr 378)), (ze P "__repr__" 974 (zr 385)), (ze P "__static_attributes__" 977 (zr 386))] 34))
abbrev zo164 (P : Params) := (zt "tuple" (Data.seq #[] 0))
abbrev zo165 (P : Params) := (zn Value.none (Data.fields #[(zi 150), (zi 4), (zr 174), (zi 156), (zi 4), (zr 181), (zi 160), (zi 4), (zr 188), (zi 174), (zi 4), (zr 195), (zi 177), (zi 4), (zr 203), (zi 180), (zi 4), (zr 210), (zi 184), (zi 4), (zr 217), (zi 187), (zi 4), (zr 224), (zi 191), (zi 4), (zr 231), (zi 195), (zi 4), (zr 238), (zi 199), (zi 4), (zr 245), (zi 203), (zi 4), (zr 252), (zi 206), (zi 4), (zr 259), (zi 209), (zi 4), (zr 266), (zi 212), (zi 4), (zr 273), (zi 215), (zi 4), (zr 280), (zi 218), (zi 4), (zr 287), (zi 222), (zi 4), (zr 295), (zi 239), (zi 4), (zr 303), (zi 242), (zi 4), (zr 311), (zi 256), (zi 4), (zr 319), (zi 259), (zi 4), (zr 326), (zi 273), (zi 4), (zr 333), (zi 276), (zi 4), (zr 341), (zi 283), (zi 4), (zr 349), (zi 286), (zi 4), (zr 356), (zi 289), (zi 4), (zr 363), (zi 296), (zi 4), (zr 370), (zi 312), (zi 4), (zr 377), (zi 315), (zi 4), (zr 384)]))
abbrev zo166 (P : Params) := (zt "code" (Data.fields #[(zs "BytesIO" 721), (zs "BytesIO" 722), (zs "/claim/cut.py" 723), (zi 147), (zi 0), (zi 0), (zi 0), (zi 0), (zr 164), (Value.bool Bool.false), (zi 318), (zr 165), Value.none, Value.none, Value.none, Value.none, (zi 724), (zi 147), (zs "/claim/cut.py" 725)]))
abbrev zo167 (P : Params) := (Obj.mk (Value.type "frame") none Data.plain #[(some (zr 166)), (some (zr 3)), (some (zr 163)), none, (some (zs "io" 611)), none, (some (zr 0))])
abbrev zo168 (P : Params) := (zt "tuple" (Data.seq #[Value.none] 0))
abbrev zo169 (P : Params) := (zt "tuple" (Data.seq #[] 0))
abbrev zo170 (P : Params) := (zn Value.none (Data.fields #[]))
abbrev zo171 (P : Params) := (zt "tuple" (Data.seq #[(zs "self" 736), (zs "initial_bytes" 737)] 0))
abbrev zo172 (P : Params) := (zt "tuple" (Data.seq #[] 0))
abbrev zo173 (P : Params) := (zn Value.none (Data.func (FuncData.mk (zS "__init__") (zS "BytesIO.__init__") (tA (tC (tM 20) 1)) (tB (tC (tM 20) 1)) (tG (tC (tM 20) 1)) 0 [] Value.none Value.none Value.none Value.none none Value.none Value.none 0)))
abbrev zo174 (P : Params) := (zt "code" (Data.fields #[(zs "__init__" 733), (zs "BytesIO.__init__" 734), (zs "/claim/cut.py" 735), (zi 150), (zi 2), (zi 0), (zi 0), (zi 3), (zr 169), (Value.bool Bool.true), (zi 318), (zr 170), Value.none, (zr 171), (zr 172), (zr 173), (zi 738), (zi 150), (zs "/claim/cut.py" 739)]))
abbrev zo175 (P : Params) := (zt "function" (Data.func (FuncData.mk (zS "__init__") (zS "BytesIO.__init__") (tA (tC (tM 20) 1)) (tB (tC (tM 20) 1)) (tG (tC (tM 20) 1)) 3 [] (zr 168) Value.none Value.none (zs "io" 611) none (zr 174) Value.none 0)))
abbrev zo176 (P : Params) := (zt "tuple" (Data.seq #[] 0))
abbrev zo177 (P : Params) := (zn Value.none (Data.fields #[]))
abbrev zo178 (P : Params) := (zt "tuple" (Data.seq #[(zs "self" 744)] 0))
abbrev zo179 (P : Params) := (zt "tuple" (Data.seq #[] 0))
abbrev zo180 (P : Params) := (zn Value.none (Data.func (FuncData.mk (zS "__check") (zS "BytesIO.__check") (tA (tC (tM 20) 2)) (tB (tC (tM 20) 2)) (tG (tC (tM 20) 2)) 0 [] Value.none Value.none Value.none Value.none none Value.none Value.none 0)))
abbrev zo181 (P : Params) := (zt "code" (Data.fields #[(zs "__check" 741), (zs "BytesIO.__check" 742), (zs "/claim/cut.py" 743), (zi 156), (zi 1), (zi 0), (zi 0), (zi 3), (zr 176), (Value.bool Bool.true), (zi 318), (zr 177), Value.none, (zr 178), (zr 179), (zr 180), (zi 745), (zi 156), (zs "/claim/cut.py" 746)]))
abbrev zo182 (P : Params) := (zt "function" (Data.func (FuncData.mk (zS "__check") (zS "BytesIO.__check") (tA (tC (tM 20) 2)) (tB (tC (tM 20) 2)) (tG (tC (tM 20) 2)) 3 [] Value.none Value.none Value.none (zs "io" 611) none (zr 181) Value.none 0)))
abbrev zo183 (P : Params) := (zt "tuple" (Data.seq #[] 0))
abbrev zo184 (P : Params) := (zn Value.none (Data.fields #[]))
abbrev zo185 (P : Params) := (zt "tuple" (Data.seq #[(zs "self" 751), (zs "limit" 752), (zs "start" 753), (zs "stop" 754), (zs "i" 755)] 0))
abbrev zo186 (P : Params) := (zt "tuple" (Data.seq #[] 0))
abbrev zo187 (P : Params) := (zn Value.none (Data.func (FuncData.mk (zS "__line") (zS "BytesIO.__line") (tA (tC (tM 20) 3)) (tB (tC (tM 20) 3)) (tG (tC (tM 20) 3)) 0 [] Value.none Value.none Value.none Value.none none Value.none Value.none 0)))
abbrev zo188 (P : Params) := (zt "code" (Data.fields #[(zs "__line" 748), (zs "BytesIO.__line" 749), (zs "/claim/cut.py" 750), (zi 160), (zi 2), (zi 0), (zi 0), (zi 3), (zr 183), (Value.bool Bool.true), (zi 318), (zr 184), Value.none, (zr 185), (zr 186), (zr 187), (zi 756), (zi 160), (zs "/claim/cut.py" 757)]))
abbrev zo189 (P : Params) := (zt "function" (Data.func (FuncData.mk (zS "__line") (zS "BytesIO.__line") (tA (tC (tM 20) 3)) (tB (tC (tM 20) 3)) (tG (tC (tM 20) 3)) 3 [] Value.none Value.none Value.none (zs "io" 611) none (zr 188) Value.none 0)))
abbrev zo190 (P : Params) := (zt "tuple" (Data.seq #[] 0))
abbrev zo191 (P : Params) := (zn Value.none (Data.fields #[]))
abbrev zo192 (P : Params) := (zt "tuple" (Data.seq #[(zs "self" 762)] 0))
abbrev zo193 (P : Params) := (zt "tuple" (Data.seq #[] 0))
abbrev zo194 (P : Params) := (zn Value.none (Data.func (FuncData.mk (zS "closed") (zS "BytesIO.closed") (tA (tC (tM 20) 4)) (tB (tC (tM 20) 4)) (tG (tC (tM 20) 4)) 0 [] Value.none Value.none Value.none Value.none none Value.none Value.none 0)))
abbrev zo195 (P : Params) := (zt "code" (Data.fields #[(zs "closed" 759), (zs "BytesIO.closed" 760), (zs "/claim/cut.py" 761), (zi 173), (zi 1), (zi 0), (zi 0), (zi 3), (zr 190), (Value.bool Bool.true), (zi 318), (zr 191), Value.none, (zr 192), (zr 193), (zr 194), (zi 763), (zi 173), (zs "/claim/cut.py" 764)]))
abbrev zo196 (P : Params) := (zt "function" (Data.func (FuncData.mk (zS "closed") (zS "BytesIO.closed") (tA (tC (tM 20) 4)) (tB (tC (tM 20) 4)) (tG (tC (tM 20) 4)) 3 [] Value.none Value.none Value.none (zs "io" 611) none (zr 195) Value.none 0)))
abbrev zo197 (P : Params) := (zt "property" (Data.fields #[(zr 196), Value.none, Value.none, Value.none, (zs "closed" 766), (Value.bool Bool.false)]))
abbrev zo198 (P : Params) := (zt "tuple" (Data.seq #[] 0))
abbrev zo199 (P : Params) := (zn Value.none (Data.fields #[]))
abbrev zo200 (P : Params) := (zt "tuple" (Data.seq #[(zs "self" 770)] 0))
abbrev zo201 (P : Params) := (zt "tuple" (Data.seq #[] 0))
abbrev zo202 (P : Params) := (zn Value.none (Data.func (FuncData.mk (zS "close") (zS "BytesIO.close") (tA (tC (tM 20) 5)) (tB (tC (tM 20) 5)) (tG (tC (tM 20) 5)) 0 [] Value.none Value.none Value.none Value.none none Value.none Value.none 0)))
abbrev zo203 (P : Params) := (zt "code" (Data.fields #[(zs "close" 767), (zs "BytesIO.close" 768), (zs "/claim/cut.py" 769), (zi 177), (zi 1), (zi 0), (zi 0), (zi 3), (zr 198), (Value.bool Bool.true), (zi 318), (zr 199), Value.none, (zr 200), (zr 201), (zr 202), (zi 771), (zi 177), (zs "/claim/cut.py" 772)]))
abbrev zo204 (P : Params) := (zt "function" (Data.func (FuncData.mk (zS "close") (zS "BytesIO.close") (tA (tC (tM 20) 5)) (tB (tC (tM 20) 5)) (tG (tC (tM 20) 5)) 3 [] Value.none Value.none Value.none (zs "io" 611) none (zr 203) Value.none 0)))
abbrev zo205 (P : Params) := (zt "tuple" (Data.seq #[] 0))
abbrev zo206 (P : Params) := (zn Value.none (Data.fields #[]))
abbrev zo207 (P : Params) := (zt "tuple" (Data.seq #[(zs "self" 777)] 0))
abbrev zo208 (P : Params) := (zt "tuple" (Data.seq #[] 0))
abbrev zo209 (P : Params) := (zn Value.none (Data.func (FuncData.mk (zS "__enter__") (zS "BytesIO.__enter__") (tA (tC (tM 20) 6)) (tB (tC (tM 20) 6)) (tG (tC (tM 20) 6)) 0 [] Value.none Value.none Value.none Value.none none Value.none Value.none 0)))
abbrev zo210 (P : Params) := (zt "code" (Data.fields #[(zs "__enter__" 774), (zs "BytesIO.__enter__" 775), (zs "/claim/cut.py" 776), (zi 180), (zi 1), (zi 0), (zi 0), (zi 3), (zr 205), (Value.bool Bool.true), (zi 318), (zr 206), Value.none, (zr 207), (zr 208), (zr 209), (zi 778), (zi 180), (zs "/claim/cut.py" 779)]))
abbrev zo211 (P : Params) := (zt "function" (Data.func (FuncData.mk (zS "__enter__") (zS "BytesIO.__enter__") (tA (tC (tM 20) 6)) (tB (tC (tM 20) 6)) (tG (tC (tM 20) 6)) 3 [] Value.none Value.none Value.none (zs "io" 611) none (zr 210) Value.none 0)))
abbrev zo212 (P : Params) := (zt "tuple" (Data.seq #[] 0))
abbrev zo213 (P : Params) := (zn Value.none (Data.fields #[]))
abbrev zo214 (P : Params) := (zt "tuple" (Data.seq #[(zs "self" 784), (zs "args" 785)] 0))
abbrev zo215 (P : Params) := (zt "tuple" (Data.seq #[] 0))
abbrev zo216 (P : Params) := (zn Value.none (Data.func (FuncData.mk (zS "__exit__") (zS "BytesIO.__exit__") (tA (tC (tM 20) 7)) (tB (tC (tM 20) 7)) (tG (tC (tM 20) 7)) 0 [] Value.none Value.none Value.none Value.none none Value.none Value.none 0)))
abbrev zo217 (P : Params) := (zt "code" (Data.fields #[(zs "__exit__" 781), (zs "BytesIO.__exit__" 782), (zs "/claim/cut.py" 783), (zi 184), (zi 1), (zi 0), (zi 0), (zi 7), (zr 212), (Value.bool Bool.true), (zi 318), (zr 213), Value.none, (zr 214), (zr 215), (zr 216), (zi 786), (zi 184), (zs "/claim/cut.py" 787)]))
abbrev zo218 (P : Params) := (zt "function" (Data.func (FuncData.mk (zS "__exit__") (zS "BytesIO.__exit__") (tA (tC (tM 20) 7)) (tB (tC (tM 20) 7)) (tG (tC (tM 20) 7)) 3 [] Value.none Value.none Value.none (zs "io" 611) none (zr 217) Value.none 0)))
abbrev zo219 (P : Params) := (zt "tuple" (Data.seq #[] 0))
abbrev zo220 (P : Params) := (zn Value.none (Data.fields #[]))
abbrev zo221 (P : Params) := (zt "tuple" (Data.seq #[(zs "self" 792)] 0))
abbrev zo222 (P : Params) := (zt "tuple" (Data.seq #[] 0))
abbrev zo223 (P : Params) := (zn Value.none (Data.func (FuncData.mk (zS "readable") (zS "BytesIO.readable") (tA (tC (tM 20) 8)) (tB (tC (tM 20) 8)) (tG (tC (tM 20) 8)) 0 [] Value.none Value.none Value.none Value.none none Value.none Value.none 0)))
abbrev zo224 (P : Params) := (zt "code" (Data.fields #[(zs "readable" 789), (zs "BytesIO.readable" 790), (zs "/claim/cut.py" 791), (zi 187), (zi 1), (zi 0), (zi 0), (zi 3), (zr 219), (Value.bool Bool.true), (zi 318), (zr 220), Value.none, (zr 221), (zr 222), (zr 223), (zi 793), (zi 187), (zs "/claim/cut.py" 794)]))
abbrev zo225 (P : Params) := (zt "function" (Data.func (FuncData.mk (zS "readable") (zS "BytesIO.readable") (tA (tC (tM 20) 8)) (tB (tC (tM 20) 8)) (tG (tC (tM 20) 8)) 3 [] Value.none Value.none Value.none (zs "io" 611) none (zr 224) Value.none 0)))
abbrev zo226 (P : Params) := (zt "tuple" (Data.seq #[] 0))
abbrev zo227 (P : Params) := (zn Value.none (Data.fields #[]))
abbrev zo228 (P : Params) := (zt "tuple" (Data.seq #[(zs "self" 799)] 0))
abbrev zo229 (P : Params) := (zt "tuple" (Data.seq #[] 0))
abbrev zo230 (P : Params) := (zn Value.none (Data.func (FuncData.mk (zS "writable") (zS "BytesIO.writable") (tA (tC (tM 20) 9)) (tB (tC (tM 20) 9)) (tG (tC (tM 20) 9)) 0 [] Value.none Value.none Value.none Value.none none Value.none Value.none 0)))
abbrev zo231 (P : Params) := (zt "code" (Data.fields #[(zs "writable" 796), (zs "BytesIO.writable" 797), (zs "/claim/cut.py" 798), (zi 191), (zi 1), (zi 0), (zi 0), (zi 3), (zr 226), (Value.bool Bool.true), (zi 318), (zr 227), Value.none, (zr 228), (zr 229), (zr 230), (zi 800), (zi 191), (zs "/claim/cut.py" 801)]))
abbrev zo232 (P : Params) := (zt "function" (Data.func (FuncData.mk (zS "writable") (zS "BytesIO.writable") (tA (tC (tM 20) 9)) (tB (tC (tM 20) 9)) (tG (tC (tM 20) 9)) 3 [] Value.none Value.none Value.none (zs "io" 611) none (zr 231) Value.none 0)))
abbrev zo233 (P : Params) := (zt "tuple" (Data.seq #[] 0))
abbrev zo234 (P : Params) := (zn Value.none (Data.fields #[]))
abbrev zo235 (P : Params) := (zt "tuple" (Data.seq #[(zs "self" 806)] 0))
abbrev zo236 (P : Params) := (zt "tuple" (Data.seq #[] 0))
abbrev zo237 (P : Params) := (zn Value.none (Data.func (FuncData.mk (zS "seekable") (zS "BytesIO.seekable") (tA (tC (tM 20) 10)) (tB (tC (tM 20) 10)) (tG (tC (tM 20) 10)) 0 [] Value.none Value.none Value.none Value.none none Value.none Value.none 0)))
abbrev zo238 (P : Params) := (zt "code" (Data.fields #[(zs "seekable" 803), (zs "BytesIO.seekable" 804), (zs "/claim/cut.py" 805), (zi 195), (zi 1), (zi 0), (zi 0), (zi 3), (zr 233), (Value.bool Bool.true), (zi 318), (zr 234), Value.none, (zr 235), (zr 236), (zr 237), (zi 807), (zi 195), (zs "/claim/cut.py" 808)]))
abbrev zo239 (P : Params) := (zt "function" (Data.func (FuncData.mk (zS "seekable") (zS "BytesIO.seekable") (tA (tC (tM 20) 10)) (tB (tC (tM 20) 10)) (tG (tC (tM 20) 10)) 3 [] Value.none Value.none Value.none (zs "io" 611) none (zr 238) Value.none 0)))
abbrev zo240 (P : Params) := (zt "tuple" (Data.seq #[] 0))
abbrev zo241 (P : Params) := (zn Value.none (Data.fields #[]))
abbrev zo242 (P : Params) := (zt "tuple" (Data.seq #[(zs "self" 813)] 0))
abbrev zo243 (P : Params) := (zt "tuple" (Data.seq #[] 0))
abbrev zo244 (P : Params) := (zn Value.none (Data.func (FuncData.mk (zS "isatty") (zS "BytesIO.isatty") (tA (tC (tM 20) 11)) (tB (tC (tM 20) 11)) (tG (tC (tM 20) 11)) 0 [] Value.none Value.none Value.none Value.none none Value.none Value.none 0)))
abbrev zo245 (P : Params) := (zt "code" (Data.fields #[(zs "isatty" 810), (zs "BytesIO.isatty" 811), (zs "/claim/cut.py" 812), (zi 199), (zi 1), (zi 0), (zi 0), (zi 3), (zr 240), (Value.bool Bool.true), (zi 318), (zr 241), Value.none, (zr 242), (zr 243), (zr 244), (zi 814), (zi 199), (zs "/claim/cut.py" 815)]))
abbrev zo246 (P : Params) := (zt "function" (Data.func (FuncData.mk (zS "isatty") (zS "BytesIO.isatty") (tA (tC (tM 20) 11)) (tB (tC (tM 20) 11)) (tG (tC (tM 20) 11)) 3 [] Value.none Value.none Value.none (zs "io" 611) none (zr 245) Value.none 0)))
abbrev zo247 (P : Params) := (zt "tuple" (Data.seq #[] 0))
abbrev zo248 (P : Params) := (zn Value.none (Data.fields #[]))
abbrev zo249 (P : Params) := (zt "tuple" (Data.seq #[(zs "self" 820)] 0))
abbrev zo250 (P : Params) := (zt "tuple" (Data.seq #[] 0))
abbrev zo251 (P : Params) := (zn Value.none (Data.func (FuncData.mk (zS "flush") (zS "BytesIO.flush") (tA (tC (tM 20) 12)) (tB (tC (tM 20) 12)) (tG (tC (tM 20) 12)) 0 [] Value.none Value.none Value.none Value.none none Value.none Value.none 0)))
abbrev zo252 (P : Params) := (zt "code" (Data.fields #[(zs "flush" 817), (zs "BytesIO.flush" 818), (zs "/claim/cut.py" 819), (zi 203), (zi 1), (zi 0), (zi 0), (zi 3), (zr 247), (Value.bool Bool.true), (zi 318), (zr 248), Value.none, (zr 249), (zr 250), (zr 251), (zi 821), (zi 203), (zs "/claim/cut.py" 822)]))
abbrev zo253 (P : Params) := (zt "function" (Data.func (FuncData.mk (zS "flush") (zS "BytesIO.flush") (tA (tC (tM 20) 12)) (tB (tC (tM 20) 12)) (tG (tC (tM 20) 12)) 3 [] Value.none Value.none Value.none (zs "io" 611) none (zr 252) Value.none 0)))
abbrev zo254 (P : Params) := (zt "tuple" (Data.seq #[] 0))
abbrev zo255 (P : Params) := (zn Value.none (Data.fields #[]))
abbrev zo256 (P : Params) := (zt "tuple" (Data.seq #[(zs "self" 827)] 0))
abbrev zo257 (P : Params) := (zt "tuple" (Data.seq #[] 0))
abbrev zo258 (P : Params) := (zn Value.none (Data.func (FuncData.mk (zS "fileno") (zS "BytesIO.fileno") (tA (tC (tM 20) 13)) (tB (tC (tM 20) 13)) (tG (tC (tM 20) 13)) 0 [] Value.none Value.none Value.none Value.none none Value.none Value.none 0)))
abbrev zo259 (P : Params) := (zt "code" (Data.fields #[(zs "fileno" 824), (zs "BytesIO.fileno" 825), (zs "/claim/cut.py" 826), (zi 206), (zi 1), (zi 0), (zi 0), (zi 3), (zr 254), (Value.bool Bool.true), (zi 318), (zr 255), Value.none, (zr 256), (zr 257), (zr 258), (zi 828), (zi 206), (zs "/claim/cut.py" 829)]))
abbrev zo260 (P : Params) := (zt "function" (Data.func (FuncData.mk (zS "fileno") (zS "BytesIO.fileno") (tA (tC (tM 20) 13)) (tB (tC (tM 20) 13)) (tG (tC (tM 20) 13)) 3 [] Value.none Value.none Value.none (zs "io" 611) none (zr 259) Value.none 0)))
abbrev zo261 (P : Params) := (zt "tuple" (Data.seq #[] 0))
abbrev zo262 (P : Params) := (zn Value.none (Data.fields #[]))
abbrev zo263 (P : Params) := (zt "tuple" (Data.seq #[(zs "self" 834)] 0))
abbrev zo264 (P : Params) := (zt "tuple" (Data.seq #[] 0))
abbrev zo265 (P : Params) := (zn Value.none (Data.func (FuncData.mk (zS "detach") (zS "BytesIO.detach") (tA (tC (tM 20) 14)) (tB (tC (tM 20) 14)) (tG (tC (tM 20) 14)) 0 [] Value.none Value.none Value.none Value.none none Value.none Value.none 0)))
abbrev zo266 (P : Params) := (zt "code" (Data.fields #[(zs "detach" 831), (zs "BytesIO.detach" 832), (zs "/claim/cut.py" 833), (zi 209), (zi 1), (zi 0), (zi 0), (zi 3), (zr 261), (Value.bool Bool.true), (zi 318), (zr 262), Value.none, (zr 263), (zr 264), (zr 265), (zi 835), (zi 209), (zs "/claim/cut.py" 836)]))
abbrev zo267 (P : Params) := (zt "function" (Data.func (FuncData.mk (zS "detach") (zS "BytesIO.detach") (tA (tC (tM 20) 14)) (tB (tC (tM 20) 14)) (tG (tC (tM 20) 14)) 3 [] Value.none Value.none Value.none (zs "io" 611) none (zr 266) Value.none 0)))
abbrev zo268 (P : Params) := (zt "tuple" (Data.seq #[] 0))
abbrev zo269 (P : Params) := (zn Value.none (Data.fields #[]))
abbrev zo270 (P : Params) := (zt "tuple" (Data.seq #[(zs "self" 841)] 0))
abbrev zo271 (P : Params) := (zt "tuple" (Data.seq #[] 0))
abbrev zo272 (P : Params) := (zn Value.none (Data.func (FuncData.mk (zS "getvalue") (zS "BytesIO.getvalue") (tA (tC (tM 20) 15)) (tB (tC (tM 20) 15)) (tG (tC (tM 20) 15)) 0 [] Value.none Value.none Value.none Value.none none Value.none Value.none 0)))
abbrev zo273 (P : Params) := (zt "code" (Data.fields #[(zs "getvalue" 838), (zs "BytesIO.getvalue" 839), (zs "/claim/cut.py" 840), (zi 212), (zi 1), (zi 0), (zi 0), (zi 3), (zr 268), (Value.bool Bool.true), (zi 318), (zr 269), Value.none, (zr 270), (zr 271), (zr 272), (zi 842), (zi 212), (zs "/claim/cut.py" 843)]))
abbrev zo274 (P : Params) := (zt "function" (Data.func (FuncData.mk (zS "getvalue") (zS "BytesIO.getvalue") (tA (tC (tM 20) 15)) (tB (tC (tM 20) 15)) (tG (tC (tM 20) 15)) 3 [] Value.none Value.none Value.none (zs "io" 611) none (zr 273) Value.none 0)))
abbrev zo275 (P : Params) := (zt "tuple" (Data.seq #[] 0))
abbrev zo276 (P : Params) := (zn Value.none (Data.fields #[]))
abbrev zo277 (P : Params) := (zt "tuple" (Data.seq #[(zs "self" 848)] 0))
abbrev zo278 (P : Params) := (zt "tuple" (Data.seq #[] 0))
abbrev zo279 (P : Params) := (zn Value.none (Data.func (FuncData.mk (zS "getbuffer") (zS "BytesIO.getbuffer") (tA (tC (tM 20) 16)) (tB (tC (tM 20) 16)) (tG (tC (tM 20) 16)) 0 [] Value.none Value.none Value.none Value.none none Value.none Value.none 0)))
abbrev zo280 (P : Params) := (zt "code" (Data.fields #[(zs "getbuffer" 845), (zs "BytesIO.getbuffer" 846), (zs "/claim/cut.py" 847), (zi 215), (zi 1), (zi 0), (zi 0), (zi 3), (zr 275), (Value.bool Bool.true), (zi 318), (zr 276), Value.none, (zr 277), (zr 278), (zr 279), (zi 849), (zi 215), (zs "/claim/cut.py" 850)]))
abbrev zo281 (P : Params) := (zt "function" (Data.func (FuncData.mk (zS "getbuffer") (zS "BytesIO.getbuffer") (tA (tC (tM 20) 16)) (tB (tC (tM 20) 16)) (tG (tC (tM 20) 16)) 3 [] Value.none Value.none Value.none (zs "io" 611) none (zr 280) Value.none 0)))
abbrev zo282 (P : Params) := (zt "tuple" (Data.seq #[] 0))
abbrev zo283 (P : Params) := (zn Value.none (Data.fields #[]))
abbrev zo284 (P : Params) := (zt "tuple" (Data.seq #[(zs "self" 855)] 0))
abbrev zo285 (P : Params) := (zt "tuple" (Data.seq #[] 0))
abbrev zo286 (P : Params) := (zn Value.none (Data.func (FuncData.mk (zS "tell") (zS "BytesIO.tell") (tA (tC (tM 20) 17)) (tB (tC (tM 20) 17)) (tG (tC (tM 20) 17)) 0 [] Value.none Value.none Value.none Value.none none Value.none Value.none 0)))
abbrev zo287 (P : Params) := (zt "code" (Data.fields #[(zs "tell" 852), (zs "BytesIO.tell" 853), (zs "/claim/cut.py" 854), (zi 218), (zi 1), (zi 0), (zi 0), (zi 3), (zr 282), (Value.bool Bool.true), (zi 318), (zr 283), Value.none, (zr 284), (zr 285), (zr 286), (zi 856), (zi 218), (zs "/claim/cut.py" 857)]))
abbrev zo288 (P : Params) := (zt "function" (Data.func (FuncData.mk (zS "tell") (zS "BytesIO.tell") (tA (tC (tM 20) 17)) (tB (tC (tM 20) 17)) (tG (tC (tM 20) 17)) 3 [] Value.none Value.none Value.none (zs "io" 611) none (zr 287) Value.none 0)))
abbrev zo289 (P : Params) := (zt "tuple" (Data.seq #[(Value.int 0 859)] 0))
abbrev zo290 (P : Params) := (zt "tuple" (Data.seq #[] 0))
abbrev zo291 (P : Params) := (zn Value.none (Data.fields #[]))
abbrev zo292 (P : Params) := (zt "tuple" (Data.seq #[(zs "self" 863), (zs "pos" 864), (zs "whence" 865)] 0))
abbrev zo293 (P : Params) := (zt "tuple" (Data.seq #[] 0))
abbrev zo294 (P : Params) := (zn Value.none (Data.func (FuncData.mk (zS "seek") (zS "BytesIO.seek") (tA (tC (tM 20) 18)) (tB (tC (tM 20) 18)) (tG (tC (tM 20) 18)) 0 [] Value.none Value.none Value.none Value.none none Value.none Value.none 0)))
abbrev zo295 (P : Params) := (zt "code" (Data.fields #[(zs "seek" 860), (zs "BytesIO.seek" 861), (zs "/claim/cut.py" 862), (zi 222), (zi 3), (zi 3), (zi 0), (zi 3), (zr 290), (Value.bool Bool.true), (zi 318), (zr 291), Value.none, (zr 292), (zr 293), (zr 294), (zi 866), (zi 222), (zs "/claim/cut.py" 867)]))
abbrev zo296 (P : Params) := (zt "function" (Data.func (FuncData.mk (zS "seek") (zS "BytesIO.seek") (tA (tC (tM 20) 18)) (tB (tC (tM 20) 18)) (tG (tC (tM 20) 18)) 3 [] (zr 289) Value.none Value.none (zs "io" 611) none (zr 295) Value.none 0)))
abbrev zo297 (P : Params) := (zt "tuple" (Data.seq #[Value.none] 0))
abbrev zo298 (P : Params) := (zt "tuple" (Data.seq #[] 0))
abbrev zo299 (P : Params) := (zn Value.none (Data.fields #[]))
abbrev zo300 (P : Params) := (zt "tuple" (Data.seq #[(zs "self" 872), (zs "size" 873)] 0))
abbrev zo301 (P : Params) := (zt "tuple" (Data.seq #[] 0))
abbrev zo302 (P : Params) := (zn Value.none (Data.func (FuncData.mk (zS "truncate") (zS "BytesIO.truncate") (tA (tC (tM 20) 19)) (tB (tC (tM 20) 19)) (tG (tC (tM 20) 19)) 0 [] Value.none Value.none Value.none Value.none none Value.none Value.none 0)))
abbrev zo303 (P : Params) := (zt "code" (Data.fields #[(zs "truncate" 869), (zs "BytesIO.truncate" 870), (zs "/claim/cut.py" 871), (zi 239), (zi 2), (zi 2), (zi 0), (zi 3), (zr 298), (Value.bool Bool.true), (zi 318), (zr 299), Value.none, (zr 300), (zr 301), (zr 302), (zi 874), (zi 239), (zs "/claim/cut.py" 875)]))
abbrev zo304 (P : Params) := (zt "function" (Data.func (FuncData.mk (zS "truncate") (zS "BytesIO.truncate") (tA (tC (tM 20) 19)) (tB (tC (tM 20) 19)) (tG (tC (tM 20) 19)) 3 [] (zr 297) Value.none Value.none (zs "io" 611) none (zr 303) Value.none 0)))
abbrev zo305 (P : Params) := (zt "tuple" (Data.seq #[(Value.int (Neg.neg (1 : Int)) 878)] 0))
abbrev zo306 (P : Params) := (zt "tuple" (Data.seq #[] 0))
abbrev zo307 (P : Params) := (zn Value.none (Data.fields #[]))
abbrev zo308 (P : Params) := (zt "tuple" (Data.seq #[(zs "self" 882), (zs "size" 883), (zs "start" 884), (zs "stop" 885)] 0))
abbrev zo309 (P : Params) := (zt "tuple" (Data.seq #[] 0))
abbrev zo310 (P : Params) := (zn Value.none (Data.func (FuncData.mk (zS "read") (zS "BytesIO.read") (tA (tC (tM 20) 20)) (tB (tC (tM 20) 20)) (tG (tC (tM 20) 20)) 0 [] Value.none Value.none Value.none Value.none none Value.none Value.none 0)))
abbrev zo311 (P : Params) := (zt "code" (Data.fields #[(zs "read" 879), (zs "BytesIO.read" 880), (zs "/claim/cut.py" 881), (zi 242), (zi 2), (zi 2), (zi 0), (zi 3), (zr 306), (Value.bool Bool.true), (zi 318), (zr 307), Value.none, (zr 308), (zr 309), (zr 310), (zi 886), (zi 242), (zs "/claim/cut.py" 887)]))
abbrev zo312 (P : Params) := (zt "function" (Data.func (FuncData.mk (zS "read") (zS "BytesIO.read") (tA (tC (tM 20) 20)) (tB (tC (tM 20) 20)) (tG (tC (tM 20) 20)) 3 [] (zr 305) Value.none Value.none (zs "io" 611) none (zr 311) Value.none 0)))
abbrev zo313 (P : Params) := (zt "tuple" (Data.seq #[(Value.int (Neg.neg (1 : Int)) 890)] 0))
abbrev zo314 (P : Params) := (zt "tuple" (Data.seq #[] 0))
abbrev zo315 (P : Params) := (zn Value.none (Data.fields #[]))
abbrev zo316 (P : Params) := (zt "tuple" (Data.seq #[(zs "self" 894), (zs "size" 895)] 0))
abbrev zo317 (P : Params) := (zt "tuple" (Data.seq #[] 0))
abbrev zo318 (P : Params) := (zn Value.none (Data.func (FuncData.mk (zS "read1") (zS "BytesIO.read1") (tA (tC (tM 20) 21)) (tB (tC (tM 20) 21)) (tG (tC (tM 20) 21)) 0 [] Value.none Value.none Value.none Value.none none Value.none Value.none 0)))
abbrev zo319 (P : Params) := (zt "code" (Data.fields #[(zs "read1" 891), (zs "BytesIO.read1" 892), (zs "/claim/cut.py" 893), (zi 256), (zi 2), (zi 2), (zi 0), (zi 3), (zr 314), (Value.bool Bool.true), (zi 318), (zr 315), Value.none, (zr 316), (zr 317), (zr 318), (zi 896), (zi 256), (zs "/claim/cut.py" 897)]))
abbrev zo320 (P : Params) := (zt "function" (Data.func (FuncData.mk (zS "read1") (zS "BytesIO.read1") (tA (tC (tM 20) 21)) (tB (tC (tM 20) 21)) (tG (tC (tM 20) 21)) 3 [] (zr 313) Value.none Value.none (zs "io" 611) none (zr 319) Value.none 0)))
abbrev zo321 (P : Params) := (zt "tuple" (Data.seq #[] 0))
abbrev zo322 (P : Params) := (zn Value.none (Data.fields #[]))
abbrev zo323 (P : Params) := (zt "tuple" (Data.seq #[(zs "self" 902), (zs "buffer" 903), (zs "start" 904), (zs "n" 905)] 0))
abbrev zo324 (P : Params) := (zt "tuple" (Data.seq #[] 0))
abbrev zo325 (P : Params) := (zn Value.none (Data.func (FuncData.mk (zS "readinto") (zS "BytesIO.readinto") (tA (tC (tM 20) 22)) (tB (tC (tM 20) 22)) (tG (tC (tM 20) 22)) 0 [] Value.none Value.none Value.none Value.none none Value.none Value.none 0)))
abbrev zo326 (P : Params) := (zt "code" (Data.fields #[(zs "readinto" 899), (zs "BytesIO.readinto" 900), (zs "/claim/cut.py" 901), (zi 259), (zi 2), (zi 2), (zi 0), (zi 3), (zr 321), (Value.bool Bool.true), (zi 318), (zr 322), Value.none, (zr 323), (zr 324), (zr 325), (zi 906), (zi 259), (zs "/claim/cut.py" 907)]))
abbrev zo327 (P : Params) := (zt "function" (Data.func (FuncData.mk (zS "readinto") (zS "BytesIO.readinto") (tA (tC (tM 20) 22)) (tB (tC (tM 20) 22)) (tG (tC (tM 20) 22)) 3 [] Value.none Value.none Value.none (zs "io" 611) none (zr 326) Value.none 0)))
abbrev zo328 (P : Params) := (zt "tuple" (Data.seq #[] 0))
abbrev zo329 (P : Params) := (zn Value.none (Data.fields #[]))
abbrev zo330 (P : Params) := (zt "tuple" (Data.seq #[(zs "self" 912), (zs "buffer" 913)] 0))
abbrev zo331 (P : Params) := (zt "tuple" (Data.seq #[] 0))
abbrev zo332 (P : Params) := (zn Value.none (Data.func (FuncData.mk (zS "readinto1") (zS "BytesIO.readinto1") (tA (tC (tM 20) 23)) (tB (tC (tM 20) 23)) (tG (tC (tM 20) 23)) 0 [] Value.none Value.none Value.none Value.none none Value.none Value.none 0)))
abbrev zo333 (P : Params) := (zt "code" (Data.fields #[(zs "readinto1" 909), (zs "BytesIO.readinto1" 910), (zs "/claim/cut.py" 911), (zi 273), (zi 2), (zi 2), (zi 0), (zi 3), (zr 328), (Value.bool Bool.true), (zi 318), (zr 329), Value.none, (zr 330), (zr 331), (zr 332), (zi 914), (zi 273), (zs "/claim/cut.py" 915)]))
abbrev zo334 (P : Params) := (zt "function" (Data.func (FuncData.mk (zS "readinto1") (zS "BytesIO.readinto1") (tA (tC (tM 20) 23)) (tB (tC (tM 20) 23)) (tG (tC (tM 20) 23)) 3 [] Value.none Value.none Value.none (zs "io" 611) none (zr 333) Value.none 0)))
abbrev zo335 (P : Params) := (zt "tuple" (Data.seq #[(Value.int (Neg.neg (1 : Int)) 918)] 0))
abbrev zo336 (P : Params) := (zt "tuple" (Data.seq #[] 0))
abbrev zo337 (P : Params) := (zn Value.none (Data.fields #[]))
abbrev zo338 (P : Params) := (zt "tuple" (Data.seq #[(zs "self" 922), (zs "size" 923)] 0))
abbrev zo339 (P : Params) := (zt "tuple" (Data.seq #[] 0))
abbrev zo340 (P : Params) := (zn Value.none (Data.func (FuncData.mk (zS "readline") (zS "BytesIO.readline") (tA (tC (tM 20) 24)) (tB (tC (tM 20) 24)) (tG (tC (tM 20) 24)) 0 [] Value.none Value.none Value.none Value.none none Value.none Value.none 0)))
abbrev zo341 (P : Params) := (zt "code" (Data.fields #[(zs "readline" 919), (zs "BytesIO.readline" 920), (zs "/claim/cut.py" 921), (zi 276), (zi 2), (zi 2), (zi 0), (zi 3), (zr 336), (Value.bool Bool.true), (zi 318), (zr 337), Value.none, (zr 338), (zr 339), (zr 340), (zi 924), (zi 276), (zs "/claim/cut.py" 925)]))
abbrev zo342 (P : Params) := (zt "function" (Data.func (FuncData.mk (zS "readline") (zS "BytesIO.readline") (tA (tC (tM 20) 24)) (tB (tC (tM 20) 24)) (tG (tC (tM 20) 24)) 3 [] (zr 335) Value.none Value.none (zs "io" 611) none (zr 341) Value.none 0)))
abbrev zo343 (P : Params) := (zt "tuple" (Data.seq #[Value.none] 0))
abbrev zo344 (P : Params) := (zt "tuple" (Data.seq #[] 0))
abbrev zo345 (P : Params) := (zn Value.none (Data.fields #[]))
abbrev zo346 (P : Params) := (zt "tuple" (Data.seq #[(zs "self" 930), (zs "size" 931)] 0))
abbrev zo347 (P : Params) := (zt "tuple" (Data.seq #[] 0))
abbrev zo348 (P : Params) := (zn Value.none (Data.func (FuncData.mk (zS "readlines") (zS "BytesIO.readlines") (tA (tC (tM 20) 25)) (tB (tC (tM 20) 25)) (tG (tC (tM 20) 25)) 0 [] Value.none Value.none Value.none Value.none none Value.none Value.none 0)))
abbrev zo349 (P : Params) := (zt "code" (Data.fields #[(zs "readlines" 927), (zs "BytesIO.readlines" 928), (zs "/claim/cut.py" 929), (zi 283), (zi 2), (zi 2), (zi 0), (zi 3), (zr 344), (Value.bool Bool.true), (zi 318), (zr 345), Value.none, (zr 346), (zr 347), (zr 348), (zi 932), (zi 283), (zs "/claim/cut.py" 933)]))
abbrev zo350 (P : Params) := (zt "function" (Data.func (FuncData.mk (zS "readlines") (zS "BytesIO.readlines") (tA (tC (tM 20) 25)) (tB (tC (tM 20) 25)) (tG (tC (tM 20) 25)) 3 [] (zr 343) Value.none Value.none (zs "io" 611) none (zr 349) Value.none 0)))
abbrev zo351 (P : Params) := (zt "tuple" (Data.seq #[] 0))
abbrev zo352 (P : Params) := (zn Value.none (Data.fields #[]))
abbrev zo353 (P : Params) := (zt "tuple" (Data.seq #[(zs "self" 938)] 0))
abbrev zo354 (P : Params) := (zt "tuple" (Data.seq #[] 0))
abbrev zo355 (P : Params) := (zn Value.none (Data.func (FuncData.mk (zS "__iter__") (zS "BytesIO.__iter__") (tA (tC (tM 20) 26)) (tB (tC (tM 20) 26)) (tG (tC (tM 20) 26)) 0 [] Value.none Value.none Value.none Value.none none Value.none Value.none 0)))
abbrev zo356 (P : Params) := (zt "code" (Data.fields #[(zs "__iter__" 935), (zs "BytesIO.__iter__" 936), (zs "/claim/cut.py" 937), (zi 286), (zi 1), (zi 0), (zi 0), (zi 3), (zr 351), (Value.bool Bool.true), (zi 318), (zr 352), Value.none, (zr 353), (zr 354), (zr 355), (zi 939), (zi 286), (zs "/claim/cut.py" 940)]))
abbrev zo357 (P : Params) := (zt "function" (Data.func (FuncData.mk (zS "__iter__") (zS "BytesIO.__iter__") (tA (tC (tM 20) 26)) (tB (tC (tM 20) 26)) (tG (tC (tM 20) 26)) 3 [] Value.none Value.none Value.none (zs "io" 611) none (zr 356) Value.none 0)))
abbrev zo358 (P : Params) := (zt "tuple" (Data.seq #[] 0))
abbrev zo359 (P : Params) := (zn Value.none (Data.fields #[]))
abbrev zo360 (P : Params) := (zt "tuple" (Data.seq #[(zs "self" 945), (zs "line" 946)] 0))
abbrev zo361 (P : Params) := (zt "tuple" (Data.seq #[] 0))
abbrev zo362 (P : Params) := (zn Value.none (Data.func (FuncData.mk (zS "__next__") (zS "BytesIO.__next__") (tA (tC (tM 20) 27)) (tB (tC (tM 20) 27)) (tG (tC (tM 20) 27)) 0 [] Value.none Value.none Value.none Value.none none Value.none Value.none 0)))
abbrev zo363 (P : Params) := (zt "code" (Data.fields #[(zs "__next__" 942), (zs "BytesIO.__next__" 943), (zs "/claim/cut.py" 944), (zi 289), (zi 1), (zi 0), (zi 0), (zi 3), (zr 358), (Value.bool Bool.true), (zi 318), (zr 359), Value.none, (zr 360), (zr 361), (zr 362), (zi 947), (zi 289), (zs "/claim/cut.py" 948)]))
abbrev zo364 (P : Params) := (zt "function" (Data.func (FuncData.mk (zS "__next__") (zS "BytesIO.__next__") (tA (tC (tM 20) 27)) (tB (tC (tM 20) 27)) (tG (tC (tM 20) 27)) 3 [] Value.none Value.none Value.none (zs "io" 611) none (zr 363) Value.none 0)))
abbrev zo365 (P : Params) := (zt "tuple" (Data.seq #[] 0))
abbrev zo366 (P : Params) := (zn Value.none (Data.fields #[]))
abbrev zo367 (P : Params) := (zt "tuple" (Data.seq #[(zs "self" 953), (zs "b" 954), (zs "n" 955), (zs "start" 956)] 0))
abbrev zo368 (P : Params) := (zt "tuple" (Data.seq #[] 0))
abbrev zo369 (P : Params) := (zn Value.none (Data.func (FuncData.mk (zS "write") (zS "BytesIO.write") (tA (tC (tM 20) 28)) (tB (tC (tM 20) 28)) (tG (tC (tM 20) 28)) 0 [] Value.none Value.none Value.none Value.none none Value.none Value.none 0)))
abbrev zo370 (P : Params) := (zt "code" (Data.fields #[(zs "write" 950), (zs "BytesIO.write" 951), (zs "/claim/cut.py" 952), (zi 296), (zi 2), (zi 2), (zi 0), (zi 3), (zr 365), (Value.bool Bool.true), (zi 318), (zr 366), Value.none, (zr 367), (zr 368), (zr 369), (zi 957), (zi 296), (zs "/claim/cut.py" 958)]))
abbrev zo371 (P : Params) := (zt "function" (Data.func (FuncData.mk (zS "write") (zS "BytesIO.write") (tA (tC (tM 20) 28)) (tB (tC (tM 20) 28)) (tG (tC (tM 20) 28)) 3 [] Value.none Value.none Value.none (zs "io" 611) none (zr 370) Value.none 0)))
abbrev zo372 (P : Params) := (zt "tuple" (Data.seq #[] 0))
abbrev zo373 (P : Params) := (zn Value.none (Data.fields #[]))
abbrev zo374 (P : Params) := (zt "tuple" (Data.seq #[(zs "self" 963), (zs "lines" 964)] 0))
abbrev zo375 (P : Params) := (zt "tuple" (Data.seq #[] 0))
abbrev zo376 (P : Params) := (zn Value.none (Data.func (FuncData.mk (zS "writelines") (zS "BytesIO.writelines") (tA (tC (tM 20) 29)) (tB (tC (tM 20) 29)) (tG (tC (tM 20) 29)) 0 [] Value.none Value.none Value.none Value.none none Value.none Value.none 0)))
abbrev zo377 (P : Params) := (zt "code" (Data.fields #[(zs "writelines" 960), (zs "BytesIO.writelines" 961), (zs "/claim/cut.py" 962), (zi 312), (zi 2), (zi 2), (zi 0), (zi 3), (zr 372), (Value.bool Bool.true), (zi 318), (zr 373), Value.none, (zr 374), (zr 375), (zr 376), (zi 965), (zi 312), (zs "/claim/cut.py" 966)]))
abbrev zo378 (P : Params) := (zt "function" (Data.func (FuncData.mk (zS "writelines") (zS "BytesIO.writelines") (tA (tC (tM 20) 29)) (tB (tC (tM 20) 29)) (tG (tC (tM 20) 29)) 3 [] Value.none Value.none Value.none (zs "io" 611) none (zr 377) Value.none 0)))
abbrev zo379 (P : Params) := (zt "tuple" (Data.seq #[] 0))
abbrev zo380 (P : Params) := (zn Value.none (Data.fields #[]))
abbrev zo381 (P : Params) := (zt "tuple" (Data.seq #[(zs "self" 971)] 0))
abbrev zo382 (P : Params) := (zt "tuple" (Data.seq #[] 0))
abbrev zo383 (P : Params) := (zn Value.none (Data.func (FuncData.mk (zS "__repr__") (zS "BytesIO.__repr__") (tA (tC (tM 20) 30)) (tB (tC (tM 20) 30)) (tG (tC (tM 20) 30)) 0 [] Value.none Value.none Value.none Value.none none Value.none Value.none 0)))
abbrev zo384 (P : Params) := (zt "code" (Data.fields #[(zs "__repr__" 968), (zs "BytesIO.__repr__" 969), (zs "/claim/cut.py" 970), (zi 315), (zi 1), (zi 0), (zi 0), (zi 3), (zr 379), (Value.bool Bool.true), (zi 318), (zr 380), Value.none, (zr 381), (zr 382), (zr 383), (zi 972), (zi 315), (zs "/claim/cut.py" 973)]))
abbrev zo385 (P : Params) := (zt "function" (Data.func (FuncData.mk (zS "__repr__") (zS "BytesIO.__repr__") (tA (tC (tM 20) 30)) (tB (tC (tM 20) 30)) (tG (tC (tM 20) 30)) 3 [] Value.none Value.none Value.none (zs "io" 611) none (zr 384) Value.none 0)))
abbrev zo386 (P : Params) := (zt "tuple" (Data.seq #[(zs "__buf" 975), (zs "__pos" 976)] 0))
abbrev zo387 (P : Params) := (zt "dict" (Data.dict #[(ze P "__module__" 726 (zs "_io" 731)), (ze P "__firstlineno__" 730 (Value.int 147 729)), (ze P "__init__" 740 (zr 175)), (ze P "_BytesIO__check" 747 (zr 182)), (ze P "_BytesIO__line" 758 (zr 189)), (ze P "closed" 766 (zr 197)), (ze P "close" 773 (zr 204)), (ze P "__enter__" 780 (zr 211)), (ze P "__exit__" 788 (zr 218)), (ze P "readable" 795 (zr 225)), (ze P "writable" 802 (zr 232)), (ze P "seekable" 809 (zr 239)), (ze P "isatty" 816 (zr 246)), (ze P "flush" 823 (zr 253)), (ze P "fileno" 830 (zr 260)), (ze P "detach" 837 (zr 267)), (ze P "getvalue" 844 (zr 274)), (ze P "getbuffer" 851 (zr 281)), (ze P "tell" 858 (zr 288)), (ze P "seek" 868 (zr 296)), (ze P "truncate" 876 (zr 304)), (ze P "read" 888 (zr 312)), (ze P "read1" 898 (zr 320)), (ze P "readinto" 908 (zr 327)), (ze P "readinto1" 916 (zr 334)), (ze P "readline" 926 (zr 342)), (ze P "readlines" 934 (zr 350)), (ze P "__iter__" 941 (zr 357)), (ze P "__next__" 949 (zr 364)), (ze P "write" 959 (zr 371)), (ze P "writelines" 967 (zr 378)), (ze P "__repr__" 974 (zr 385)), (ze P "__static_attributes__" 977 (zr 386)), (ze P "__doc__" 978 Value.none)] 2))
abbrev zo388 (P : Params) := (Obj.mk (Value.type "type") none (Data.cls (ClassData.mk (zS "BytesIO") [(zr 146)] [(zr 388), (zr 146), (zr 131), (Value.type "object")] 387 (zS "BytesIO") Bool.true [] [] Bool.false none Bool.false)) #[(some (zr 161)), none, (some (zs "BytesIO" 719)), (some (zs "BytesIO" 727)), (some Value.none), (some (Value.bool Bool.true))])
abbrev zo389 (P : Params) := (zt "super" (Data.fields #[(zr 388), (zr 388), (zr 388)]))
abbrev zo390 (P : Params) := (zt "builtin_function_or_method" (Data.fields #[(Value.builtin "object.__init_subclass__"), (zr 388)]))
abbrev zo391 (P : Params) := (zt "tuple" (Data.seq #[(zr 158)] 0))
abbrev zo392 (P : Params) := (zt "builtin_function_or_method" (Data.fields #[(Value.builtin "type.__prepare__"), (Value.type "type")]))
abbrev zo393 (P : Params) := (zt "dict" (Data.dict #[(ze P "__module__" 988 (zs "_io" 993)), (ze P "__qualname__" 990 (zs "StringIO" 989)), (ze P "__firstlineno__" 992 (Value.int 317 991)), (ze P "__init__" 1005 (zr 405)), (ze P "_StringIO__translated" 1014 (zr 412)), (ze P "_StringIO__check" 1021 (zr 419)), (ze P "_StringIO__check_dot" 1028 (zr 426)), (ze P "_StringIO__line" 1043 (zr 433)), (ze P "closed" 1051 (zr 441)), (ze P "line_buffering" 1059 (zr 449)), (ze P "newlines" 1067 (zr 457)), (ze P "encoding" 1075 (zr 465)), (ze P "errors" 1083 (zr 473)), (ze P "close" 1090 (zr 480)), (ze P "__enter__" 1097 (zr 487)), (ze P "__exit__" 1105 (zr 494)), (ze P "readable" 1112 (zr 501)), (ze P "writable" 1119 (zr 508)), (ze P "seekable" 1126 (zr 515)), (ze P "isatty" 1133 (zr 522)), (ze P "flush" 1140 (zr 529)), (ze P "fileno" 1147 (zr 536)), (ze P "detach" 1154 (zr 543)), (ze P "getvalue" 1161 (zr 550)), (ze P "tell" 1168 (zr 557)), (ze P "seek" 1178 (zr 565)), (ze P "truncate" 1186 (zr 573)), (ze P "read" 1198 (zr 581)), (ze P "readline" 1208 (zr 589)), (ze P "readlines" 1218 (zr 597)), (ze P "__iter__" 1225 (zr 604)), (ze P "__next__" 1233 (zr 611)), (ze P "write" 1245 (zr 618)), (ze P "writelines" 1253 (zr 625)), (ze P "__repr__" 1260 (zr 632)), (ze P "__static_attributes__" 1264 (zr 633))] 36))
abbrev zo394 (P : Params) := (zt "tuple" (Data.seq #[] 0))
abbrev zo395 (P : Params) := (zn Value.none (Data.fields #[(zi 320), (zi 4), (zr 404), (zi 333), (zi 4), (zr 411), (zi 341), (zi 4), (zr 418), (zi 345), (zi 4), (zr 425), (zi 349), (zi 4), (zr 432), (zi 382), (zi 4), (zr 439), (zi 386), (zi 4), (zr 447), (zi 390), (zi 4), (zr 455), (zi 394), (zi 4), (zr 463), (zi 398), (zi 4), (zr 471), (zi 401), (zi 4), (zr 479), (zi 404), (zi 4), (zr 486), (zi 408), (zi 4), (zr 493), (zi 411), (zi 4), (zr 500), (zi 415), (zi 4), (zr 507), (zi 419), (zi 4), (zr 514), (zi 423), (zi 4), (zr 521), (zi 427), (zi 4), (zr 528), (zi 430), (zi 4), (zr 535), (zi 433), (zi 4), (zr 542), (zi 436), (zi 4), (zr 549), (zi 439), (zi 4), (zr 556), (zi 443), (zi 4), (zr 564), (zi 460), (zi 4), (zr 572), (zi 463), (zi 4), (zr 580), (zi 477), (zi 4), (zr 588), (zi 484), (zi 4), (zr 596), (zi 487), (zi 4), (zr 603), (zi 491), (zi 4), (zr 610), (zi 498), (zi 4), (zr 617), (zi 517), (zi 4), (zr 624), (zi 520), (zi 4), (zr 631)]))
abbrev zo396 (P : Params) := (zt "code" (Data.fields #[(zs "StringIO" 983), (zs "StringIO" 984), (zs "/claim/cut.py" 985), (zi 317), (zi 0), (zi 0), (zi 0), (zi 0), (zr 394), (Value.bool Bool.false), (zi 318), (zr 395), Value.none, Value.none, Value.none, Value.none, (zi 986), (zi 317), (zs "/claim/cut.py" 987)]))
abbrev zo397 (P : Params) := (Obj.mk (Value.type "frame") none Data.plain #[(some (zr 396)), (some (zr 3)), (some (zr 393)), none, (some (zs "io" 611)), none, (some (zr 0))])
abbrev zo398 (P : Params) := (zt "tuple" (Data.seq #[(zs "" 995), (zs "\n" 996)] 0))
abbrev zo399 (P : Params) := (zt "tuple" (Data.seq #[] 0))
abbrev zo400 (P : Params) := (zn Value.none (Data.fields #[]))
abbrev zo401 (P : Params) := (zt "tuple" (Data.seq #[(zs "self" 1000), (zs "initial_value" 1001), (zs "newline" 1002)] 0))
abbrev zo402 (P : Params) := (zt "tuple" (Data.seq #[] 0))
abbrev zo403 (P : Params) := (zn Value.none (Data.func (FuncData.mk (zS "__init__") (zS "StringIO.__init__") (tA (tC (tM 21) 1)) (tB (tC (tM 21) 1)) (tG (tC (tM 21) 1)) 0 [] Value.none Value.none Value.none Value.none none Value.none Value.none 0)))
abbrev zo404 (P : Params) := (zt "code" (Data.fields #[(zs "__init__" 997), (zs "StringIO.__init__" 998), (zs "/claim/cut.py" 999), (zi 320), (zi 3), (zi 0), (zi 0), (zi 3), (zr 399), (Value.bool Bool.true), (zi 318), (zr 400), Value.none, (zr 401), (zr 402), (zr 403), (zi 1003), (zi 320), (zs "/claim/cut.py" 1004)]))
abbrev zo405 (P : Params) := (zt "function" (Data.func (FuncData.mk (zS "__init__") (zS "StringIO.__init__") (tA (tC (tM 21) 1)) (tB (tC (tM 21) 1)) (tG (tC (tM 21) 1)) 3 [] (zr 398) Value.none Value.none (zs "io" 611) none (zr 404) Value.none 0)))
abbrev zo406 (P : Params) := (zt "tuple" (Data.seq #[] 0))
abbrev zo407 (P : Params) := (zn Value.none (Data.fields #[]))
abbrev zo408 (P : Params) := (zt "tuple" (Data.seq #[(zs "self" 1009), (zs "s" 1010), (zs "newline" 1011)] 0))
abbrev zo409 (P : Params) := (zt "tuple" (Data.seq #[] 0))
abbrev zo410 (P : Params) := (zn Value.none (Data.func (FuncData.mk (zS "__translated") (zS "StringIO.__translated") (tA (tC (tM 21) 2)) (tB (tC (tM 21) 2)) (tG (tC (tM 21) 2)) 0 [] Value.none Value.none Value.none Value.none none Value.none Value.none 0)))
abbrev zo411 (P : Params) := (zt "code" (Data.fields #[(zs "__translated" 1006), (zs "StringIO.__translated" 1007), (zs "/claim/cut.py" 1008), (zi 333), (zi 2), (zi 0), (zi 0), (zi 3), (zr 406), (Value.bool Bool.true), (zi 318), (zr 407), Value.none, (zr 408), (zr 409), (zr 410), (zi 1012), (zi 333), (zs "/claim/cut.py" 1013)]))
abbrev zo412 (P : Params) := (zt "function" (Data.func (FuncData.mk (zS "__translated") (zS "StringIO.__translated") (tA (tC (tM 21) 2)) (tB (tC (tM 21) 2)) (tG (tC (tM 21) 2)) 3 [] Value.none Value.none Value.none (zs "io" 611) none (zr 411) Value.none 0)))
abbrev zo413 (P : Params) := (zt "tuple" (Data.seq #[] 0))
abbrev zo414 (P : Params) := (zn Value.none (Data.fields #[]))
abbrev zo415 (P : Params) := (zt "tuple" (Data.seq #[(zs "self" 1018)] 0))
abbrev zo416 (P : Params) := (zt "tuple" (Data.seq #[] 0))
abbrev zo417 (P : Params) := (zn Value.none (Data.func (FuncData.mk (zS "__check") (zS "StringIO.__check") (tA (tC (tM 21) 3)) (tB (tC (tM 21) 3)) (tG (tC (tM 21) 3)) 0 [] Value.none Value.none Value.none Value.none none Value.none Value.none 0)))
abbrev zo418 (P : Params) := (zt "code" (Data.fields #[(zs "__check" 1015), (zs "StringIO.__check" 1016), (zs "/claim/cut.py" 1017), (zi 341), (zi 1), (zi 0), (zi 0), (zi 3), (zr 413), (Value.bool Bool.true), (zi 318), (zr 414), Value.none, (zr 415), (zr 416), (zr 417), (zi 1019), (zi 341), (zs "/claim/cut.py" 1020)]))
abbrev zo419 (P : Params) := (zt "function" (Data.func (FuncData.mk (zS "__check") (zS "StringIO.__check") (tA (tC (tM 21) 3)) (tB (tC (tM 21) 3)) (tG (tC (tM 21) 3)) 3 [] Value.none Value.none Value.none (zs "io" 611) none (zr 418) Value.none 0)))
abbrev zo420 (P : Params) := (zt "tuple" (Data.seq #[] 0))
abbrev zo421 (P : Params) := (zn Value.none (Data.fields #[]))
abbrev zo422 (P : Params) := (zt "tuple" (Data.seq #[(zs "self" 1025)] 0))
abbrev zo423 (P : Params) := (zt "tuple" (Data.seq #[] 0))
abbrev zo424 (P : Params) := (zn Value.none (Data.func (FuncData.mk (zS "__check_dot") (zS "StringIO.__check_dot") (tA (tC (tM 21) 4)) (tB (tC (tM 21) 4)) (tG (tC (tM 21) 4)) 0 [] Value.none Value.none Value.none Value.none none Value.none Value.none 0)))
abbrev zo425 (P : Params) := (zt "code" (Data.fields #[(zs "__check_dot" 1022), (zs "StringIO.__check_dot" 1023), (zs "/claim/cut.py" 1024), (zi 345), (zi 1), (zi 0), (zi 0), (zi 3), (zr 420), (Value.bool Bool.true), (zi 318), (zr 421), Value.none, (zr 422), (zr 423), (zr 424), (zi 1026), (zi 345), (zs "/claim/cut.py" 1027)]))
abbrev zo426 (P : Params) := (zt "function" (Data.func (FuncData.mk (zS "__check_dot") (zS "StringIO.__check_dot") (tA (tC (tM 21) 4)) (tB (tC (tM 21) 4)) (tG (tC (tM 21) 4)) 3 [] Value.none Value.none Value.none (zs "io" 611) none (zr 425) Value.none 0)))
abbrev zo427 (P : Params) := (zt "tuple" (Data.seq #[] 0))
abbrev zo428 (P : Params) := (zn Value.none (Data.fields #[]))
abbrev zo429 (P : Params) := (zt "tuple" (Data.seq #[(zs "self" 1032), (zs "limit" 1033), (zs "start" 1034), (zs "stop" 1035), (zs "cut" 1036), (zs "newline" 1037), (zs "i" 1038), (zs "j" 1039), (zs "end" 1040)] 0))
abbrev zo430 (P : Params) := (zt "tuple" (Data.seq #[] 0))
abbrev zo431 (P : Params) := (zn Value.none (Data.func (FuncData.mk (zS "__line") (zS "StringIO.__line") (tA (tC (tM 21) 5)) (tB (tC (tM 21) 5)) (tG (tC (tM 21) 5)) 0 [] Value.none Value.none Value.none Value.none none Value.none Value.none 0)))
abbrev zo432 (P : Params) := (zt "code" (Data.fields #[(zs "__line" 1029), (zs "StringIO.__line" 1030), (zs "/claim/cut.py" 1031), (zi 349), (zi 2), (zi 0), (zi 0), (zi 3), (zr 427), (Value.bool Bool.true), (zi 318), (zr 428), Value.none, (zr 429), (zr 430), (zr 431), (zi 1041), (zi 349), (zs "/claim/cut.py" 1042)]))
abbrev zo433 (P : Params) := (zt "function" (Data.func (FuncData.mk (zS "__line") (zS "StringIO.__line") (tA (tC (tM 21) 5)) (tB (tC (tM 21) 5)) (tG (tC (tM 21) 5)) 3 [] Value.none Value.none Value.none (zs "io" 611) none (zr 432) Value.none 0)))
abbrev zo434 (P : Params) := (zt "tuple" (Data.seq #[] 0))
abbrev zo435 (P : Params) := (zn Value.none (Data.fields #[]))
abbrev zo436 (P : Params) := (zt "tuple" (Data.seq #[(zs "self" 1047)] 0))
abbrev zo437 (P : Params) := (zt "tuple" (Data.seq #[] 0))
abbrev zo438 (P : Params) := (zn Value.none (Data.func (FuncData.mk (zS "closed") (zS "StringIO.closed") (tA (tC (tM 21) 6)) (tB (tC (tM 21) 6)) (tG (tC (tM 21) 6)) 0 [] Value.none Value.none Value.none Value.none none Value.none Value.none 0)))
abbrev zo439 (P : Params) := (zt "code" (Data.fields #[(zs "closed" 1044), (zs "StringIO.closed" 1045), (zs "/claim/cut.py" 1046), (zi 381), (zi 1), (zi 0), (zi 0), (zi 3), (zr 434), (Value.bool Bool.true), (zi 318), (zr 435), Value.none, (zr 436), (zr 437), (zr 438), (zi 1048), (zi 381), (zs "/claim/cut.py" 1049)]))
abbrev zo440 (P : Params) := (zt "function" (Data.func (FuncData.mk (zS "closed") (zS "StringIO.closed") (tA (tC (tM 21) 6)) (tB (tC (tM 21) 6)) (tG (tC (tM 21) 6)) 3 [] Value.none Value.none Value.none (zs "io" 611) none (zr 439) Value.none 0)))
abbrev zo441 (P : Params) := (zt "property" (Data.fields #[(zr 440), Value.none, Value.none, Value.none, (zs "closed" 1051), (Value.bool Bool.false)]))
abbrev zo442 (P : Params) := (zt "tuple" (Data.seq #[] 0))
abbrev zo443 (P : Params) := (zn Value.none (Data.fields #[]))
abbrev zo444 (P : Params) := (zt "tuple" (Data.seq #[(zs "self" 1055)] 0))
abbrev zo445 (P : Params) := (zt "tuple" (Data.seq #[] 0))
abbrev zo446 (P : Params) := (zn Value.none (Data.func (FuncData.mk (zS "line_buffering") (zS "StringIO.line_buffering") (tA (tC (tM 21) 7)) (tB (tC (tM 21) 7)) (tG (tC (tM 21) 7)) 0 [] Value.none Value.none Value.none Value.none none Value.none Value.none 0)))
abbrev zo447 (P : Params) := (zt "code" (Data.fields #[(zs "line_buffering" 1052), (zs "StringIO.line_buffering" 1053), (zs "/claim/cut.py" 1054), (zi 385), (zi 1), (zi 0), (zi 0), (zi 3), (zr 442), (Value.bool Bool.true), (zi 318), (zr 443), Value.none, (zr 444), (zr 445), (zr 446), (zi 1056), (zi 385), (zs "/claim/cut.py" 1057)]))
abbrev zo448 (P : Params) := (zt "function" (Data.func (FuncData.mk (zS "line_buffering") (zS "StringIO.line_buffering") (tA (tC (tM 21) 7)) (tB (tC (tM 21) 7)) (tG (tC (tM 21) 7)) 3 [] Value.none Value.none Value.none (zs "io" 611) none (zr 447) Value.none 0)))
abbrev zo449 (P : Params) := (zt "property" (Data.fields #[(zr 448), Value.none, Value.none, Value.none, (zs "line_buffering" 1059), (Value.bool Bool.false)]))
abbrev zo450 (P : Params) := (zt "tuple" (Data.seq #[] 0))
abbrev zo451 (P : Params) := (zn Value.none (Data.fields #[]))
abbrev zo452 (P : Params) := (zt "tuple" (Data.seq #[(zs "self" 1063)] 0))
abbrev zo453 (P : Params) := (zt "tuple" (Data.seq #[] 0))
abbrev zo454 (P : Params) := (zn Value.none (Data.func (FuncData.mk (zS "newlines") (zS "StringIO.newlines") (tA (tC (tM 21) 8)) (tB (tC (tM 21) 8)) (tG (tC (tM 21) 8)) 0 [] Value.none Value.none Value.none Value.none none Value.none Value.none 0)))
abbrev zo455 (P : Params) := (zt "code" (Data.fields #[(zs "newlines" 1060), (zs "StringIO.newlines" 1061), (zs "/claim/cut.py" 1062), (zi 389), (zi 1), (zi 0), (zi 0), (zi 3), (zr 450), (Value.bool Bool.true), (zi 318), (zr 451), Value.none, (zr 452), (zr 453), (zr 454), (zi 1064), (zi 389), (zs "/claim/cut.py" 1065)]))
abbrev zo456 (P : Params) := (zt "function" (Data.func (FuncData.mk (zS "newlines") (zS "StringIO.newlines") (tA (tC (tM 21) 8)) (tB (tC (tM 21) 8)) (tG (tC (tM 21) 8)) 3 [] Value.none Value.none Value.none (zs "io" 611) none (zr 455) Value.none 0)))
abbrev zo457 (P : Params) := (zt "property" (Data.fields #[(zr 456), Value.none, Value.none, Value.none, (zs "newlines" 1067), (Value.bool Bool.false)]))
abbrev zo458 (P : Params) := (zt "tuple" (Data.seq #[] 0))
abbrev zo459 (P : Params) := (zn Value.none (Data.fields #[]))
abbrev zo460 (P : Params) := (zt "tuple" (Data.seq #[(zs "self" 1071)] 0))
abbrev zo461 (P : Params) := (zt "tuple" (Data.seq #[] 0))
abbrev zo462 (P : Params) := (zn Value.none (Data.func (FuncData.mk (zS "encoding") (zS "StringIO.encoding") (tA (tC (tM 21) 9)) (tB (tC (tM 21) 9)) (tG (tC (tM 21) 9)) 0 [] Value.none Value.none Value.none Value.none none Value.none Value.none 0)))
abbrev zo463 (P : Params) := (zt "code" (Data.fields #[(zs "encoding" 1068), (zs "StringIO.encoding" 1069), (zs "/claim/cut.py" 1070), (zi 393), (zi 1), (zi 0), (zi 0), (zi 3), (zr 458), (Value.bool Bool.true), (zi 318), (zr 459), Value.none, (zr 460), (zr 461), (zr 462), (zi 1072), (zi 393), (zs "/claim/cut.py" 1073)]))
abbrev zo464 (P : Params) := (zt "function" (Data.func (FuncData.mk (zS "encoding") (zS "StringIO.encoding") (tA (tC (tM 21) 9)) (tB (tC (tM 21) 9)) (tG (tC (tM 21) 9)) 3 [] Value.none Value.none Value.none (zs "io" 611) none (zr 463) Value.none 0)))
abbrev zo465 (P : Params) := (zt "property" (Data.fields #[(zr 464), Value.none, Value.none, Value.none, (zs "encoding" 1075), (Value.bool Bool.false)]))
abbrev zo466 (P : Params) := (zt "tuple" (Data.seq #[] 0))
abbrev zo467 (P : Params) := (zn Value.none (Data.fields #[]))
abbrev zo468 (P : Params) := (zt "tuple" (Data.seq #[(zs "self" 1079)] 0))
abbrev zo469 (P : Params) := (zt "tuple" (Data.seq #[] 0))
abbrev zo470 (P : Params) := (zn Value.none (Data.func (FuncData.mk (zS "errors") (zS "StringIO.errors") (tA (tC (tM 21) 10)) (tB (tC (tM 21) 10)) (tG (tC (tM 21) 10)) 0 [] Value.none Value.none Value.none Value.none none Value.none Value.none 0)))
abbrev zo471 (P : Params) := (zt "code" (Data.fields #[(zs "errors" 1076), (zs "StringIO.errors" 1077), (zs "/claim/cut.py" 1078), (zi 397), (zi 1), (zi 0), (zi 0), (zi 3), (zr 466), (Value.bool Bool.true), (zi 318), (zr 467), Value.none, (zr 468), (zr 469), (zr 470), (zi 1080), (zi 397), (zs "/claim/cut.py" 1081)]))
abbrev zo472 (P : Params) := (zt "function" (Data.func (FuncData.mk (zS "errors") (zS "StringIO.errors") (tA (tC (tM 21) 10)) (tB (tC (tM 21) 10)) (tG (tC (tM 21) 10)) 3 [] Value.none Value.none Value.none (zs "io" 611) none (zr 471) Value.none 0)))
abbrev zo473 (P : Params) := (zt "property" (Data.fields #[(zr 472), Value.none, Value.none, Value.none, (zs "errors" 1083), (Value.bool Bool.false)]))
abbrev zo474 (P : Params) := (zt "tuple" (Data.seq #[] 0))
abbrev zo475 (P : Params) := (zn Value.none (Data.fields #[]))
abbrev zo476 (P : Params) := (zt "tuple" (Data.seq #[(zs "self" 1087)] 0))
abbrev zo477 (P : Params) := (zt "tuple" (Data.seq #[] 0))
abbrev zo478 (P : Params) := (zn Value.none (Data.func (FuncData.mk (zS "close") (zS "StringIO.close") (tA (tC (tM 21) 11)) (tB (tC (tM 21) 11)) (tG (tC (tM 21) 11)) 0 [] Value.none Value.none Value.none Value.none none Value.none Value.none 0)))
abbrev zo479 (P : Params) := (zt "code" (Data.fields #[(zs "close" 1084), (zs "StringIO.close" 1085), (zs "/claim/cut.py" 1086), (zi 401), (zi 1), (zi 0), (zi 0), (zi 3), (zr 474), (Value.bool Bool.true), (zi 318), (zr 475), Value.none, (zr 476), (zr 477), (zr 478), (zi 1088), (zi 401), (zs "/claim/cut.py" 1089)]))
abbrev zo480 (P : Params) := (zt "function" (Data.func (FuncData.mk (zS "close") (zS "StringIO.close") (tA (tC (tM 21) 11)) (tB (tC (tM 21) 11)) (tG (tC (tM 21) 11)) 3 [] Value.none Value.none Value.none (zs "io" 611) none (zr 479) Value.none 0)))
abbrev zo481 (P : Params) := (zt "tuple" (Data.seq #[] 0))
abbrev zo482 (P : Params) := (zn Value.none (Data.fields #[]))
abbrev zo483 (P : Params) := (zt "tuple" (Data.seq #[(zs "self" 1094)] 0))
abbrev zo484 (P : Params) := (zt "tuple" (Data.seq #[] 0))
abbrev zo485 (P : Params) := (zn Value.none (Data.func (FuncData.mk (zS "__enter__") (zS "StringIO.__enter__") (tA (tC (tM 21) 12)) (tB (tC (tM 21) 12)) (tG (tC (tM 21) 12)) 0 [] Value.none Value.none Value.none Value.none none Value.none Value.none 0)))
abbrev zo486 (P : Params) := (zt "code" (Data.fields #[(zs "__enter__" 1091), (zs "StringIO.__enter__" 1092), (zs "/claim/cut.py" 1093), (zi 404), (zi 1), (zi 0), (zi 0), (zi 3), (zr 481), (Value.bool Bool.true), (zi 318), (zr 482), Value.none, (zr 483), (zr 484), (zr 485), (zi 1095), (zi 404), (zs "/claim/cut.py" 1096)]))
abbrev zo487 (P : Params) := (zt "function" (Data.func (FuncData.mk (zS "__enter__") (zS "StringIO.__enter__") (tA (tC (tM 21) 12)) (tB (tC (tM 21) 12)) (tG (tC (tM 21) 12)) 3 [] Value.none Value.none Value.none (zs "io" 611) none (zr 486) Value.none 0)))
abbrev zo488 (P : Params) := (zt "tuple" (Data.seq #[] 0))
abbrev zo489 (P : Params) := (zn Value.none (Data.fields #[]))
abbrev zo490 (P : Params) := (zt "tuple" (Data.seq #[(zs "self" 1101), (zs "args" 1102)] 0))
abbrev zo491 (P : Params) := (zt "tuple" (Data.seq #[] 0))
abbrev zo492 (P : Params) := (zn Value.none (Data.func (FuncData.mk (zS "__exit__") (zS "StringIO.__exit__") (tA (tC (tM 21) 13)) (tB (tC (tM 21) 13)) (tG (tC (tM 21) 13)) 0 [] Value.none Value.none Value.none Value.none none Value.none Value.none 0)))
abbrev zo493 (P : Params) := (zt "code" (Data.fields #[(zs "__exit__" 1098), (zs "StringIO.__exit__" 1099), (zs "/claim/cut.py" 1100), (zi 408), (zi 1), (zi 0), (zi 0), (zi 7), (zr 488), (Value.bool Bool.true), (zi 318), (zr 489), Value.none, (zr 490), (zr 491), (zr 492), (zi 1103), (zi 408), (zs "/claim/cut.py" 1104)]))
abbrev zo494 (P : Params) := (zt "function" (Data.func (FuncData.mk (zS "__exit__") (zS "StringIO.__exit__") (tA (tC (tM 21) 13)) (tB (tC (tM 21) 13)) (tG (tC (tM 21) 13)) 3 [] Value.none Value.none Value.none (zs "io" 611) none (zr 493) Value.none 0)))
abbrev zo495 (P : Params) := (zt "tuple" (Data.seq #[] 0))
abbrev zo496 (P : Params) := (zn Value.none (Data.fields #[]))
abbrev zo497 (P : Params) := (zt "tuple" (Data.seq #[(zs "self" 1109)] 0))
abbrev zo498 (P : Params) := (zt "tuple" (Data.seq #[] 0))
abbrev zo499 (P : Params) := (zn Value.none (Data.func (FuncData.mk (zS "readable") (zS "StringIO.readable") (tA (tC (tM 21) 14)) (tB (tC (tM 21) 14)) (tG (tC (tM 21) 14)) 0 [] Value.none Value.none Value.none Value.none none Value.none Value.none 0)))
abbrev zo500 (P : Params) := (zt "code" (Data.fields #[(zs "readable" 1106), (zs "StringIO.readable" 1107), (zs "/claim/cut.py" 1108), (zi 411), (zi 1), (zi 0), (zi 0), (zi 3), (zr 495), (Value.bool Bool.true), (zi 318), (zr 496), Value.none, (zr 497), (zr 498), (zr 499), (zi 1110), (zi 411), (zs "/claim/cut.py" 1111)]))
abbrev zo501 (P : Params) := (zt "function" (Data.func (FuncData.mk (zS "readable") (zS "StringIO.readable") (tA (tC (tM 21) 14)) (tB (tC (tM 21) 14)) (tG (tC (tM 21) 14)) 3 [] Value.none Value.none Value.none (zs "io" 611) none (zr 500) Value.none 0)))
abbrev zo502 (P : Params) := (zt "tuple" (Data.seq #[] 0))
abbrev zo503 (P : Params) := (zn Value.none (Data.fields #[]))
abbrev zo504 (P : Params) := (zt "tuple" (Data.seq #[(zs "self" 1116)] 0))
abbrev zo505 (P : Params) := (zt "tuple" (Data.seq #[] 0))
abbrev zo506 (P : Params) := (zn Value.none (Data.func (FuncData.mk (zS "writable") (zS "StringIO.writable") (tA (tC (tM 21) 15)) (tB (tC (tM 21) 15)) (tG (tC (tM 21) 15)) 0 [] Value.none Value.none Value.none Value.none none Value.none Value.none 0)))
abbrev zo507 (P : Params) := (zt "code" (Data.fields #[(zs "writable" 1113), (zs "StringIO.writable" 1114), (zs "/claim/cut.py" 1115), (zi 415), (zi 1), (zi 0), (zi 0), (zi 3), (zr 502), (Value.bool Bool.true), (zi 318), (zr 503), Value.none, (zr 504), (zr 505), (zr 506), (zi 1117), (zi 415), (zs "/claim/cut.py" 1118)]))
abbrev zo508 (P : Params) := (zt "function" (Data.func (FuncData.mk (zS "writable") (zS "StringIO.writable") (tA (tC (tM 21) 15)) (tB (tC (tM 21) 15)) (tG (tC (tM 21) 15)) 3 [] Value.none Value.none Value.none (zs "io" 611) none (zr 507) Value.none 0)))
abbrev zo509 (P : Params) := (zt "tuple" (Data.seq #[] 0))
abbrev zo510 (P : Params) := (zn Value.none (Data.fields #[]))
abbrev zo511 (P : Params) := (zt "tuple" (Data.seq #[(zs "self" 1123)] 0))
abbrev zo512 (P : Params) := (zt "tuple" (Data.seq #[] 0))
abbrev zo513 (P : Params) := (zn Value.none (Data.func (FuncData.mk (zS "seekable") (zS "StringIO.seekable") (tA (tC (tM 21) 16)) (tB (tC (tM 21) 16)) (tG (tC (tM 21) 16)) 0 [] Value.none Value.none Value.none Value.none none Value.none Value.none 0)))
abbrev zo514 (P : Params) := (zt "code" (Data.fields #[(zs "seekable" 1120), (zs "StringIO.seekable" 1121), (zs "/claim/cut.py" 1122), (zi 419), (zi 1), (zi 0), (zi 0), (zi 3), (zr 509), (Value.bool Bool.true), (zi 318), (zr 510), Value.none, (zr 511), (zr 512), (zr 513), (zi 1124), (zi 419), (zs "/claim/cut.py" 1125)]))
abbrev zo515 (P : Params) := (zt "function" (Data.func (FuncData.mk (zS "seekable") (zS "StringIO.seekable") (tA (tC (tM 21) 16)) (tB (tC (tM 21) 16)) (tG (tC (tM 21) 16)) 3 [] Value.none Value.none Value.none (zs "io" 611) none (zr 514) Value.none 0)))
abbrev zo516 (P : Params) := (zt "tuple" (Data.seq #[] 0))
abbrev zo517 (P : Params) := (zn Value.none (Data.fields #[]))
abbrev zo518 (P : Params) := (zt "tuple" (Data.seq #[(zs "self" 1130)] 0))
abbrev zo519 (P : Params) := (zt "tuple" (Data.seq #[] 0))
abbrev zo520 (P : Params) := (zn Value.none (Data.func (FuncData.mk (zS "isatty") (zS "StringIO.isatty") (tA (tC (tM 21) 17)) (tB (tC (tM 21) 17)) (tG (tC (tM 21) 17)) 0 [] Value.none Value.none Value.none Value.none none Value.none Value.none 0)))
abbrev zo521 (P : Params) := (zt "code" (Data.fields #[(zs "isatty" 1127), (zs "StringIO.isatty" 1128), (zs "/claim/cut.py" 1129), (zi 423), (zi 1), (zi 0), (zi 0), (zi 3), (zr 516), (Value.bool Bool.true), (zi 318), (zr 517), Value.none, (zr 518), (zr 519), (zr 520), (zi 1131), (zi 423), (zs "/claim/cut.py" 1132)]))
abbrev zo522 (P : Params) := (zt "function" (Data.func (FuncData.mk (zS "isatty") (zS "StringIO.isatty") (tA (tC (tM 21) 17)) (tB (tC (tM 21) 17)) (tG (tC (tM 21) 17)) 3 [] Value.none Value.none Value.none (zs "io" 611) none (zr 521) Value.none 0)))
abbrev zo523 (P : Params) := (zt "tuple" (Data.seq #[] 0))
abbrev zo524 (P : Params) := (zn Value.none (Data.fields #[]))
abbrev zo525 (P : Params) := (zt "tuple" (Data.seq #[(zs "self" 1137)] 0))
abbrev zo526 (P : Params) := (zt "tuple" (Data.seq #[] 0))
abbrev zo527 (P : Params) := (zn Value.none (Data.func (FuncData.mk (zS "flush") (zS "StringIO.flush") (tA (tC (tM 21) 18)) (tB (tC (tM 21) 18)) (tG (tC (tM 21) 18)) 0 [] Value.none Value.none Value.none Value.none none Value.none Value.none 0)))
abbrev zo528 (P : Params) := (zt "code" (Data.fields #[(zs "flush" 1134), (zs "StringIO.flush" 1135), (zs "/claim/cut.py" 1136), (zi 427), (zi 1), (zi 0), (zi 0), (zi 3), (zr 523), (Value.bool Bool.true), (zi 318), (zr 524), Value.none, (zr 525), (zr 526), (zr 527), (zi 1138), (zi 427), (zs "/claim/cut.py" 1139)]))
abbrev zo529 (P : Params) := (zt "function" (Data.func (FuncData.mk (zS "flush") (zS "StringIO.flush") (tA (tC (tM 21) 18)) (tB (tC (tM 21) 18)) (tG (tC (tM 21) 18)) 3 [] Value.none Value.none Value.none (zs "io" 611) none (zr 528) Value.none 0)))
abbrev zo530 (P : Params) := (zt "tuple" (Data.seq #[] 0))
abbrev zo531 (P : Params) := (zn Value.none (Data.fields #[]))
abbrev zo532 (P : Params) := (zt "tuple" (Data.seq #[(zs "self" 1144)] 0))
abbrev zo533 (P : Params) := (zt "tuple" (Data.seq #[] 0))
abbrev zo534 (P : Params) := (zn Value.none (Data.func (FuncData.mk (zS "fileno") (zS "StringIO.fileno") (tA (tC (tM 21) 19)) (tB (tC (tM 21) 19)) (tG (tC (tM 21) 19)) 0 [] Value.none Value.none Value.none Value.none none Value.none Value.none 0)))
abbrev zo535 (P : Params) := (zt "code" (Data.fields #[(zs "fileno" 1141), (zs "StringIO.fileno" 1142), (zs "/claim/cut.py" 1143), (zi 430), (zi 1), (zi 0), (zi 0), (zi 3), (zr 530), (Value.bool Bool.true), (zi 318), (zr 531), Value.none, (zr 532), (zr 533), (zr 534), (zi 1145), (zi 430), (zs "/claim/cut.py" 1146)]))
abbrev zo536 (P : Params) := (zt "function" (Data.func (FuncData.mk (zS "fileno") (zS "StringIO.fileno") (tA (tC (tM 21) 19)) (tB (tC (tM 21) 19)) (tG (tC (tM 21) 19)) 3 [] Value.none Value.none Value.none (zs "io" 611) none (zr 535) Value.none 0)))
abbrev zo537 (P : Params) := (zt "tuple" (Data.seq #[] 0))
abbrev zo538 (P : Params) := (zn Value.none (Data.fields #[]))
abbrev zo539 (P : Params) := (zt "tuple" (Data.seq #[(zs "self" 1151)] 0))
abbrev zo540 (P : Params) := (zt "tuple" (Data.seq #[] 0))
abbrev zo541 (P : Params) := (zn Value.none (Data.func (FuncData.mk (zS "detach") (zS "StringIO.detach") (tA (tC (tM 21) 20)) (tB (tC (tM 21) 20)) (tG (tC (tM 21) 20)) 0 [] Value.none Value.none Value.none Value.none none Value.none Value.none 0)))
abbrev zo542 (P : Params) := (zt "code" (Data.fields #[(zs "detach" 1148), (zs "StringIO.detach" 1149), (zs "/claim/cut.py" 1150), (zi 433), (zi 1), (zi 0), (zi 0), (zi 3), (zr 537), (Value.bool Bool.true), (zi 318), (zr 538), Value.none, (zr 539), (zr 540), (zr 541), (zi 1152), (zi 433), (zs "/claim/cut.py" 1153)]))
abbrev zo543 (P : Params) := (zt "function" (Data.func (FuncData.mk (zS "detach") (zS "StringIO.detach") (tA (tC (tM 21) 20)) (tB (tC (tM 21) 20)) (tG (tC (tM 21) 20)) 3 [] Value.none Value.none Value.none (zs "io" 611) none (zr 542) Value.none 0)))
abbrev zo544 (P : Params) := (zt "tuple" (Data.seq #[] 0))
abbrev zo545 (P : Params) := (zn Value.none (Data.fields #[]))
abbrev zo546 (P : Params) := (zt "tuple" (Data.seq #[(zs "self" 1158)] 0))
abbrev zo547 (P : Params) := (zt "tuple" (Data.seq #[] 0))
abbrev zo548 (P : Params) := (zn Value.none (Data.func (FuncData.mk (zS "getvalue") (zS "StringIO.getvalue") (tA (tC (tM 21) 21)) (tB (tC (tM 21) 21)) (tG (tC (tM 21) 21)) 0 [] Value.none Value.none Value.none Value.none none Value.none Value.none 0)))
abbrev zo549 (P : Params) := (zt "code" (Data.fields #[(zs "getvalue" 1155), (zs "StringIO.getvalue" 1156), (zs "/claim/cut.py" 1157), (zi 436), (zi 1), (zi 0), (zi 0), (zi 3), (zr 544), (Value.bool Bool.true), (zi 318), (zr 545), Value.none, (zr 546), (zr 547), (zr 548), (zi 1159), (zi 436), (zs "/claim/cut.py" 1160)]))
abbrev zo550 (P : Params) := (zt "function" (Data.func (FuncData.mk (zS "getvalue") (zS "StringIO.getvalue") (tA (tC (tM 21) 21)) (tB (tC (tM 21) 21)) (tG (tC (tM 21) 21)) 3 [] Value.none Value.none Value.none (zs "io" 611) none (zr 549) Value.none 0)))
abbrev zo551 (P : Params) := (zt "tuple" (Data.seq #[] 0))
abbrev zo552 (P : Params) := (zn Value.none (Data.fields #[]))
abbrev zo553 (P : Params) := (zt "tuple" (Data.seq #[(zs "self" 1165)] 0))
abbrev zo554 (P : Params) := (zt "tuple" (Data.seq #[] 0))
abbrev zo555 (P : Params) := (zn Value.none (Data.func (FuncData.mk (zS "tell") (zS "StringIO.tell") (tA (tC (tM 21) 22)) (tB (tC (tM 21) 22)) (tG (tC (tM 21) 22)) 0 [] Value.none Value.none Value.none Value.none none Value.none Value.none 0)))
abbrev zo556 (P : Params) := (zt "code" (Data.fields #[(zs "tell" 1162), (zs "StringIO.tell" 1163), (zs "/claim/cut.py" 1164), (zi 439), (zi 1), (zi 0), (zi 0), (zi 3), (zr 551), (Value.bool Bool.true), (zi 318), (zr 552), Value.none, (zr 553), (zr 554), (zr 555), (zi 1166), (zi 439), (zs "/claim/cut.py" 1167)]))
abbrev zo557 (P : Params) := (zt "function" (Data.func (FuncData.mk (zS "tell") (zS "StringIO.tell") (tA (tC (tM 21) 22)) (tB (tC (tM 21) 22)) (tG (tC (tM 21) 22)) 3 [] Value.none Value.none Value.none (zs "io" 611) none (zr 556) Value.none 0)))
abbrev zo558 (P : Params) := (zt "tuple" (Data.seq #[(Value.int 0 1169)] 0))
abbrev zo559 (P : Params) := (zt "tuple" (Data.seq #[] 0))
abbrev zo560 (P : Params) := (zn Value.none (Data.fields #[]))
abbrev zo561 (P : Params) := (zt "tuple" (Data.seq #[(zs "self" 1173), (zs "pos" 1174), (zs "whence" 1175)] 0))
abbrev zo562 (P : Params) := (zt "tuple" (Data.seq #[] 0))
abbrev zo563 (P : Params) := (zn Value.none (Data.func (FuncData.mk (zS "seek") (zS "StringIO.seek") (tA (tC (tM 21) 23)) (tB (tC (tM 21) 23)) (tG (tC (tM 21) 23)) 0 [] Value.none Value.none Value.none Value.none none Value.none Value.none 0)))
abbrev zo564 (P : Params) := (zt "code" (Data.fields #[(zs "seek" 1170), (zs "StringIO.seek" 1171), (zs "/claim/cut.py" 1172), (zi 443), (zi 3), (zi 3), (zi 0), (zi 3), (zr 559), (Value.bool Bool.true), (zi 318), (zr 560), Value.none, (zr 561), (zr 562), (zr 563), (zi 1176), (zi 443), (zs "/claim/cut.py" 1177)]))
abbrev zo565 (P : Params) := (zt "function" (Data.func (FuncData.mk (zS "seek") (zS "StringIO.seek") (tA (tC (tM 21) 23)) (tB (tC (tM 21) 23)) (tG (tC (tM 21) 23)) 3 [] (zr 558) Value.none Value.none (zs "io" 611) none (zr 564) Value.none 0)))
abbrev zo566 (P : Params) := (zt "tuple" (Data.seq #[Value.none] 0))
abbrev zo567 (P : Params) := (zt "tuple" (Data.seq #[] 0))
abbrev zo568 (P : Params) := (zn Value.none (Data.fields #[]))
abbrev zo569 (P : Params) := (zt "tuple" (Data.seq #[(zs "self" 1182), (zs "pos" 1183)] 0))
abbrev zo570 (P : Params) := (zt "tuple" (Data.seq #[] 0))
abbrev zo571 (P : Params) := (zn Value.none (Data.func (FuncData.mk (zS "truncate") (zS "StringIO.truncate") (tA (tC (tM 21) 24)) (tB (tC (tM 21) 24)) (tG (tC (tM 21) 24)) 0 [] Value.none Value.none Value.none Value.none none Value.none Value.none 0)))
abbrev zo572 (P : Params) := (zt "code" (Data.fields #[(zs "truncate" 1179), (zs "StringIO.truncate" 1180), (zs "/claim/cut.py" 1181), (zi 460), (zi 2), (zi 2), (zi 0), (zi 3), (zr 567), (Value.bool Bool.true), (zi 318), (zr 568), Value.none, (zr 569), (zr 570), (zr 571), (zi 1184), (zi 460), (zs "/claim/cut.py" 1185)]))
abbrev zo573 (P : Params) := (zt "function" (Data.func (FuncData.mk (zS "truncate") (zS "StringIO.truncate") (tA (tC (tM 21) 24)) (tB (tC (tM 21) 24)) (tG (tC (tM 21) 24)) 3 [] (zr 566) Value.none Value.none (zs "io" 611) none (zr 572) Value.none 0)))
abbrev zo574 (P : Params) := (zt "tuple" (Data.seq #[(Value.int (Neg.neg (1 : Int)) 1188)] 0))
abbrev zo575 (P : Params) := (zt "tuple" (Data.seq #[] 0))
abbrev zo576 (P : Params) := (zn Value.none (Data.fields #[]))
abbrev zo577 (P : Params) := (zt "tuple" (Data.seq #[(zs "self" 1192), (zs "size" 1193), (zs "start" 1194), (zs "stop" 1195)] 0))
abbrev zo578 (P : Params) := (zt "tuple" (Data.seq #[] 0))
abbrev zo579 (P : Params) := (zn Value.none (Data.func (FuncData.mk (zS "read") (zS "StringIO.read") (tA (tC (tM 21) 25)) (tB (tC (tM 21) 25)) (tG (tC (tM 21) 25)) 0 [] Value.none Value.none Value.none Value.none none Value.none Value.none 0)))
abbrev zo580 (P : Params) := (zt "code" (Data.fields #[(zs "read" 1189), (zs "StringIO.read" 1190), (zs "/claim/cut.py" 1191), (zi 463), (zi 2), (zi 2), (zi 0), (zi 3), (zr 575), (Value.bool Bool.true), (zi 318), (zr 576), Value.none, (zr 577), (zr 578), (zr 579), (zi 1196), (zi 463), (zs "/claim/cut.py" 1197)]))
abbrev zo581 (P : Params) := (zt "function" (Data.func (FuncData.mk (zS "read") (zS "StringIO.read") (tA (tC (tM 21) 25)) (tB (tC (tM 21) 25)) (tG (tC (tM 21) 25)) 3 [] (zr 574) Value.none Value.none (zs "io" 611) none (zr 580) Value.none 0)))
abbrev zo582 (P : Params) := (zt "tuple" (Data.seq #[(Value.int (Neg.neg (1 : Int)) 1200)] 0))
abbrev zo583 (P : Params) := (zt "tuple" (Data.seq #[] 0))
abbrev zo584 (P : Params) := (zn Value.none (Data.fields #[]))
abbrev zo585 (P : Params) := (zt "tuple" (Data.seq #[(zs "self" 1204), (zs "size" 1205)] 0))
abbrev zo586 (P : Params) := (zt "tuple" (Data.seq #[] 0))
abbrev zo587 (P : Params) := (zn Value.none (Data.func (FuncData.mk (zS "readline") (zS "StringIO.readline") (tA (tC (tM 21) 26)) (tB (tC (tM 21) 26)) (tG (tC (tM 21) 26)) 0 [] Value.none Value.none Value.none Value.none none Value.none Value.none 0)))
abbrev zo588 (P : Params) := (zt "code" (Data.fields #[(zs "readline" 1201), (zs "StringIO.readline" 1202), (zs "/claim/cut.py" 1203), (zi 477), (zi 2), (zi 2), (zi 0), (zi 3), (zr 583), (Value.bool Bool.true), (zi 318), (zr 584), Value.none, (zr 585), (zr 586), (zr 587), (zi 1206), (zi 477), (zs "/claim/cut.py" 1207)]))
abbrev zo589 (P : Params) := (zt "function" (Data.func (FuncData.mk (zS "readline") (zS "StringIO.readline") (tA (tC (tM 21) 26)) (tB (tC (tM 21) 26)) (tG (tC (tM 21) 26)) 3 [] (zr 582) Value.none Value.none (zs "io" 611) none (zr 588) Value.none 0)))
abbrev zo590 (P : Params) := (zt "tuple" (Data.seq #[(Value.int (Neg.neg (1 : Int)) 1210)] 0))
abbrev zo591 (P : Params) := (zt "tuple" (Data.seq #[] 0))
abbrev zo592 (P : Params) := (zn Value.none (Data.fields #[]))
abbrev zo593 (P : Params) := (zt "tuple" (Data.seq #[(zs "self" 1214), (zs "hint" 1215)] 0))
abbrev zo594 (P : Params) := (zt "tuple" (Data.seq #[] 0))
abbrev zo595 (P : Params) := (zn Value.none (Data.func (FuncData.mk (zS "readlines") (zS "StringIO.readlines") (tA (tC (tM 21) 27)) (tB (tC (tM 21) 27)) (tG (tC (tM 21) 27)) 0 [] Value.none Value.none Value.none Value.none none Value.none Value.none 0)))
abbrev zo596 (P : Params) := (zt "code" (Data.fields #[(zs "readlines" 1211), (zs "StringIO.readlines" 1212), (zs "/claim/cut.py" 1213), (zi 484), (zi 2), (zi 2), (zi 0), (zi 3), (zr 591), (Value.bool Bool.true), (zi 318), (zr 592), Value.none, (zr 593), (zr 594), (zr 595), (zi 1216), (zi 484), (zs "/claim/cut.py" 1217)]))
abbrev zo597 (P : Params) := (zt "function" (Data.func (FuncData.mk (zS "readlines") (zS "StringIO.readlines") (tA (tC (tM 21) 27)) (tB (tC (tM 21) 27)) (tG (tC (tM 21) 27)) 3 [] (zr 590) Value.none Value.none (zs "io" 611) none (zr 596) Value.none 0)))
abbrev zo598 (P : Params) := (zt "tuple" (Data.seq #[] 0))
abbrev zo599 (P : Params) := (zn Value.none (Data.fields #[]))
abbrev zo600 (P : Params) := (zt "tuple" (Data.seq #[(zs "self" 1222)] 0))
abbrev zo601 (P : Params) := (zt "tuple" (Data.seq #[] 0))
abbrev zo602 (P : Params) := (zn Value.none (Data.func (FuncData.mk (zS "__iter__") (zS "StringIO.__iter__") (tA (tC (tM 21) 28)) (tB (tC (tM 21) 28)) (tG (tC (tM 21) 28)) 0 [] Value.none Value.none Value.none Value.none none Value.none Value.none 0)))
abbrev zo603 (P : Params) := (zt "code" (Data.fields #[(zs "__iter__" 1219), (zs "StringIO.__iter__" 1220), (zs "/claim/cut.py" 1221), (zi 487), (zi 1), (zi 0), (zi 0), (zi 3), (zr 598), (Value.bool Bool.true), (zi 318), (zr 599), Value.none, (zr 600), (zr 601), (zr 602), (zi 1223), (zi 487), (zs "/claim/cut.py" 1224)]))
abbrev zo604 (P : Params) := (zt "function" (Data.func (FuncData.mk (zS "__iter__") (zS "StringIO.__iter__") (tA (tC (tM 21) 28)) (tB (tC (tM 21) 28)) (tG (tC (tM 21) 28)) 3 [] Value.none Value.none Value.none (zs "io" 611) none (zr 603) Value.none 0)))
abbrev zo605 (P : Params) := (zt "tuple" (Data.seq #[] 0))
abbrev zo606 (P : Params) := (zn Value.none (Data.fields #[]))
abbrev zo607 (P : Params) := (zt "tuple" (Data.seq #[(zs "self" 1229), (zs "line" 1230)] 0))
abbrev zo608 (P : Params) := (zt "tuple" (Data.seq #[] 0))
abbrev zo609 (P : Params) := (zn Value.none (Data.func (FuncData.mk (zS "__next__") (zS "StringIO.__next__") (tA (tC (tM 21) 29)) (tB (tC (tM 21) 29)) (tG (tC (tM 21) 29)) 0 [] Value.none Value.none Value.none Value.none none Value.none Value.none 0)))
abbrev zo610 (P : Params) := (zt "code" (Data.fields #[(zs "__next__" 1226), (zs "StringIO.__next__" 1227), (zs "/claim/cut.py" 1228), (zi 491), (zi 1), (zi 0), (zi 0), (zi 3), (zr 605), (Value.bool Bool.true), (zi 318), (zr 606), Value.none, (zr 607), (zr 608), (zr 609), (zi 1231), (zi 491), (zs "/claim/cut.py" 1232)]))
abbrev zo611 (P : Params) := (zt "function" (Data.func (FuncData.mk (zS "__next__") (zS "StringIO.__next__") (tA (tC (tM 21) 29)) (tB (tC (tM 21) 29)) (tG (tC (tM 21) 29)) 3 [] Value.none Value.none Value.none (zs "io" 611) none (zr 610) Value.none 0)))
abbrev zo612 (P : Params) := (zt "tuple" (Data.seq #[] 0))
abbrev zo613 (P : Params) := (zn Value.none (Data.fields #[]))
abbrev zo614 (P : Params) := (zt "tuple" (Data.seq #[(zs "self" 1237), (zs "s" 1238), (zs "n" 1239), (zs "m" 1240), (zs "start" 1241), (zs "buf" 1242)] 0))
abbrev zo615 (P : Params) := (zt "tuple" (Data.seq #[] 0))
abbrev zo616 (P : Params) := (zn Value.none (Data.func (FuncData.mk (zS "write") (zS "StringIO.write") (tA (tC (tM 21) 30)) (tB (tC (tM 21) 30)) (tG (tC (tM 21) 30)) 0 [] Value.none Value.none Value.none Value.none none Value.none Value.none 0)))
abbrev zo617 (P : Params) := (zt "code" (Data.fields #[(zs "write" 1234), (zs "StringIO.write" 1235), (zs "/claim/cut.py" 1236), (zi 498), (zi 2), (zi 2), (zi 0), (zi 3), (zr 612), (Value.bool Bool.true), (zi 318), (zr 613), Value.none, (zr 614), (zr 615), (zr 616), (zi 1243), (zi 498), (zs "/claim/cut.py" 1244)]))
abbrev zo618 (P : Params) := (zt "function" (Data.func (FuncData.mk (zS "write") (zS "StringIO.write") (tA (tC (tM 21) 30)) (tB (tC (tM 21) 30)) (tG (tC (tM 21) 30)) 3 [] Value.none Value.none Value.none (zs "io" 611) none (zr 617) Value.none 0)))
abbrev zo619 (P : Params) := (zt "tuple" (Data.seq #[] 0))
abbrev zo620 (P : Params) := (zn Value.none (Data.fields #[]))
abbrev zo621 (P : Params) := (zt "tuple" (Data.seq #[(zs "self" 1249), (zs "lines" 1250)] 0))
abbrev zo622 (P : Params) := (zt "tuple" (Data.seq #[] 0))
abbrev zo623 (P : Params) := (zn Value.none (Data.func (FuncData.mk (zS "writelines") (zS "StringIO.writelines") (tA (tC (tM 21) 31)) (tB (tC (tM 21) 31)) (tG (tC (tM 21) 31)) 0 [] Value.none Value.none Value.none Value.none none Value.none Value.none 0)))
abbrev zo624 (P : Params) := (zt "code" (Data.fields #[(zs "writelines" 1246), (zs "StringIO.writelines" 1247), (zs "/claim/cut.py" 1248), (zi 517), (zi 2), (zi 2), (zi 0), (zi 3), (zr 619), (Value.bool Bool.true), (zi 318), (zr 620), Value.none, (zr 621), (zr 622), (zr 623), (zi 1251), (zi 517), (zs "/claim/cut.py" 1252)]))
abbrev zo625 (P : Params) := (zt "function" (Data.func (FuncData.mk (zS "writelines") (zS "StringIO.writelines") (tA (tC (tM 21) 31)) (tB (tC (tM 21) 31)) (tG (tC (tM 21) 31)) 3 [] Value.none Value.none Value.none (zs "io" 611) none (zr 624) Value.none 0)))
abbrev zo626 (P : Params) := (zt "tuple" (Data.seq #[] 0))
abbrev zo627 (P : Params) := (zn Value.none (Data.fields #[]))
abbrev zo628 (P : Params) := (zt "tuple" (Data.seq #[(zs "self" 1257)] 0))
abbrev zo629 (P : Params) := (zt "tuple" (Data.seq #[] 0))
abbrev zo630 (P : Params) := (zn Value.none (Data.func (FuncData.mk (zS "__repr__") (zS "StringIO.__repr__") (tA (tC (tM 21) 32)) (tB (tC (tM 21) 32)) (tG (tC (tM 21) 32)) 0 [] Value.none Value.none Value.none Value.none none Value.none Value.none 0)))
abbrev zo631 (P : Params) := (zt "code" (Data.fields #[(zs "__repr__" 1254), (zs "StringIO.__repr__" 1255), (zs "/claim/cut.py" 1256), (zi 520), (zi 1), (zi 0), (zi 0), (zi 3), (zr 626), (Value.bool Bool.true), (zi 318), (zr 627), Value.none, (zr 628), (zr 629), (zr 630), (zi 1258), (zi 520), (zs "/claim/cut.py" 1259)]))
abbrev zo632 (P : Params) := (zt "function" (Data.func (FuncData.mk (zS "__repr__") (zS "StringIO.__repr__") (tA (tC (tM 21) 32)) (tB (tC (tM 21) 32)) (tG (tC (tM 21) 32)) 3 [] Value.none Value.none Value.none (zs "io" 611) none (zr 631) Value.none 0)))
abbrev zo633 (P : Params) := (zt "tuple" (Data.seq #[(zs "__buf" 1261), (zs "__newline" 1262), (zs "__pos" 1263)] 0))
abbrev zo634 (P : Params) := (zt "dict" (Data.dict #[(ze P "__module__" 988 (zs "_io" 993)), (ze P "__firstlineno__" 992 (Value.int 317 991)), (ze P "__init__" 1005 (zr 405)), (ze P "_StringIO__translated" 1014 (zr 412)), (ze P "_StringIO__check" 1021 (zr 419)), (ze P "_StringIO__check_dot" 1028 (zr 426)), (ze P "_StringIO__line" 1043 (zr 433)), (ze P "closed" 1051 (zr 441)), (ze P "line_buffering" 1059 (zr 449)), (ze P "newlines" 1067 (zr 457)), (ze P "encoding" 1075 (zr 465)), (ze P "errors" 1083 (zr 473)), (ze P "close" 1090 (zr 480)), (ze P "__enter__" 1097 (zr 487)), (ze P "__exit__" 1105 (zr 494)), (ze P "readable" 1112 (zr 501)), (ze P "writable" 1119 (zr 508)), (ze P "seekable" 1126 (zr 515)), (ze P "isatty" 1133 (zr 522)), (ze P "flush" 1140 (zr 529)), (ze P "fileno" 1147 (zr 536)), (ze P "detach" 1154 (zr 543)), (ze P "getvalue" 1161 (zr 550)), (ze P "tell" 1168 (zr 557)), (ze P "seek" 1178 (zr 565)), (ze P "truncate" 1186 (zr 573)), (ze P "read" 1198 (zr 581)), (ze P "readline" 1208 (zr 589)), (ze P "readlines" 1218 (zr 597)), (ze P "__iter__" 1225 (zr 604)), (ze P "__next__" 1233 (zr 611)), (ze P "write" 1245 (zr 618)), (ze P "writelines" 1253 (zr 625)), (ze P "__repr__" 1260 (zr 632)), (ze P "__static_attributes__" 1264 (zr 633)), (ze P "__doc__" 1265 Value.none)] 2))
abbrev zo635 (P : Params) := (Obj.mk (Value.type "type") none (Data.cls (ClassData.mk (zS "StringIO") [(zr 158)] [(zr 635), (zr 158), (zr 131), (Value.type "object")] 634 (zS "StringIO") Bool.true [] [] Bool.false none Bool.false)) #[(some (zr 391)), none, (some (zs "StringIO" 981)), (some (zs "StringIO" 989)), (some Value.none), (some (Value.bool Bool.true))])
abbrev zo636 (P : Params) := (zt "super" (Data.fields #[(zr 635), (zr 635), (zr 635)]))
abbrev zo637 (P : Params) := (zt "builtin_function_or_method" (Data.fields #[(Value.builtin "object.__init_subclass__"), (zr 635)]))
abbrev zo638 (P : Params) := (zt "tuple" (Data.seq #[] 0))
abbrev zo639 (P : Params) := (zn Value.none (Data.fields #[]))
abbrev zo640 (P : Params) := (zt "tuple" (Data.seq #[(zs "name" 1273), (zs "x" 1274), (zs "t" 1275)] 0))
abbrev zo641 (P : Params) := (zt "tuple" (Data.seq #[] 0))
abbrev zo642 (P : Params) := (zn Value.none (Data.func (FuncData.mk (zS "_kind") (zS "_kind") (tA (tM 23)) (tB (tM 23)) (tG (tM 23)) 0 [] Value.none Value.none Value.none Value.none none Value.none Value.none 0)))
abbrev zo643 (P : Params) := (zt "code" (Data.fields #[(zs "_kind" 1270), (zs "_kind" 1271), (zs "/claim/cut.py" 1272), (zi 523), (zi 2), (zi 0), (zi 0), (zi 3), (zr 638), (Value.bool Bool.true), (zi 318), (zr 639), Value.none, (zr 640), (zr 641), (zr 642), (zi 1276), (zi 523), (zs "/claim/cut.py" 1277)]))
abbrev zo644 (P : Params) := (zt "function" (Data.func (FuncData.mk (zS "_kind") (zS "_kind") (tA (tM 23)) (tB (tM 23)) (tG (tM 23)) 3 [] Value.none Value.none Value.none (zs "os.path" 1268) none (zr 643) Value.none 0)))
abbrev zo645 (P : Params) := (zt "tuple" (Data.seq #[] 0))
abbrev zo646 (P : Params) := (zn Value.none (Data.fields #[]))
abbrev zo647 (P : Params) := (zt "tuple" (Data.seq #[(zs "name" 1282), (zs "x" 1283), (zs "k" 1284)] 0))
abbrev zo648 (P : Params) := (zt "tuple" (Data.seq #[] 0))
abbrev zo649 (P : Params) := (zn Value.none (Data.func (FuncData.mk (zS "_fspath") (zS "_fspath") (tA (tM 24)) (tB (tM 24)) (tG (tM 24)) 0 [] Value.none Value.none Value.none Value.none none Value.none Value.none 0)))
abbrev zo650 (P : Params) := (zt "code" (Data.fields #[(zs "_fspath" 1279), (zs "_fspath" 1280), (zs "/claim/cut.py" 1281), (zi 544), (zi 2), (zi 0), (zi 0), (zi 3), (zr 645), (Value.bool Bool.true), (zi 318), (zr 646), Value.none, (zr 647), (zr 648), (zr 649), (zi 1285), (zi 544), (zs "/claim/cut.py" 1286)]))
abbrev zo651 (P : Params) := (zt "function" (Data.func (FuncData.mk (zS "_fspath") (zS "_fspath") (tA (tM 24)) (tB (tM 24)) (tG (tM 24)) 3 [] Value.none Value.none Value.none (zs "os.path" 1268) none (zr 650) Value.none 0)))
abbrev zo652 (P : Params) := (zt "tuple" (Data.seq #[] 0))
abbrev zo653 (P : Params) := (zn Value.none (Data.fields #[]))
abbrev zo654 (P : Params) := (zt "tuple" (Data.seq #[(zs "funcname" 1291), (zs "args" 1292), (zs "s" 1293), (zs "k" 1294)] 0))
abbrev zo655 (P : Params) := (zt "tuple" (Data.seq #[] 0))
abbrev zo656 (P : Params) := (zn Value.none (Data.func (FuncData.mk (zS "_check_arg_types") (zS "_check_arg_types") (tA (tM 25)) (tB (tM 25)) (tG (tM 25)) 0 [] Value.none Value.none Value.none Value.none none Value.none Value.none 0)))
abbrev zo657 (P : Params) := (zt "code" (Data.fields #[(zs "_check_arg_types" 1288), (zs "_check_arg_types" 1289), (zs "/claim/cut.py" 1290), (zi 549), (zi 1), (zi 0), (zi 0), (zi 7), (zr 652), (Value.bool Bool.true), (zi 318), (zr 653), Value.none, (zr 654), (zr 655), (zr 656), (zi 1295), (zi 549), (zs "/claim/cut.py" 1296)]))
abbrev zo658 (P : Params) := (zt "function" (Data.func (FuncData.mk (zS "_check_arg_types") (zS "_check_arg_types") (tA (tM 25)) (tB (tM 25)) (tG (tM 25)) 3 [] Value.none Value.none Value.none (zs "os.path" 1268) none (zr 657) Value.none 0)))
abbrev zo659 (P : Params) := (zt "tuple" (Data.seq #[] 0))
abbrev zo660 (P : Params) := (zn Value.none (Data.fields #[]))
abbrev zo661 (P : Params) := (zt "tuple" (Data.seq #[(zs "s" 1301)] 0))
abbrev zo662 (P : Params) := (zt "tuple" (Data.seq #[] 0))
abbrev zo663 (P : Params) := (zn Value.none (Data.func (FuncData.mk (zS "isabs") (zS "isabs") (tA (tM 26)) (tB (tM 26)) (tG (tM 26)) 0 [] Value.none Value.none Value.none Value.none none Value.none Value.none 0)))
abbrev zo664 (P : Params) := (zt "code" (Data.fields #[(zs "isabs" 1298), (zs "isabs" 1299), (zs "/claim/cut.py" 1300), (zi 554), (zi 1), (zi 0), (zi 0), (zi 3), (zr 659), (Value.bool Bool.true), (zi 318), (zr 660), Value.none, (zr 661), (zr 662), (zr 663), (zi 1302), (zi 554), (zs "/claim/cut.py" 1303)]))
abbrev zo665 (P : Params) := (zt "function" (Data.func (FuncData.mk (zS "isabs") (zS "isabs") (tA (tM 26)) (tB (tM 26)) (tG (tM 26)) 3 [] Value.none Value.none Value.none (zs "os.path" 1268) none (zr 664) Value.none 0)))
abbrev zo666 (P : Params) := (zt "tuple" (Data.seq #[] 0))
abbrev zo667 (P : Params) := (zn Value.none (Data.fields #[]))
abbrev zo668 (P : Params) := (zt "tuple" (Data.seq #[(zs "a" 1308), (zs "p" 1309), (zs "b" 1310), (zs "sep" 1311), (zs "path" 1312)] 0))
abbrev zo669 (P : Params) := (zt "tuple" (Data.seq #[] 0))
abbrev zo670 (P : Params) := (zn Value.none (Data.func (FuncData.mk (zS "join") (zS "join") (tA (tM 27)) (tB (tM 27)) (tG (tM 27)) 0 [] Value.none Value.none Value.none Value.none none Value.none Value.none 0)))
abbrev zo671 (P : Params) := (zt "code" (Data.fields #[(zs "join" 1305), (zs "join" 1306), (zs "/claim/cut.py" 1307), (zi 557), (zi 1), (zi 0), (zi 0), (zi 7), (zr 666), (Value.bool Bool.true), (zi 318), (zr 667), Value.none, (zr 668), (zr 669), (zr 670), (zi 1313), (zi 557), (zs "/claim/cut.py" 1314)]))
abbrev zo672 (P : Params) := (zt "function" (Data.func (FuncData.mk (zS "join") (zS "join") (tA (tM 27)) (tB (tM 27)) (tG (tM 27)) 3 [] Value.none Value.none Value.none (zs "os.path" 1268) none (zr 671) Value.none 0)))
abbrev zo673 (P : Params) := (zt "tuple" (Data.seq #[] 0))
abbrev zo674 (P : Params) := (zn Value.none (Data.fields #[]))
abbrev zo675 (P : Params) := (zt "tuple" (Data.seq #[(zs "p" 1320), (zs "sep" 1321), (zs "i" 1322), (zs "head" 1323)] 0))
abbrev zo676 (P : Params) := (zt "tuple" (Data.seq #[] 0))
abbrev zo677 (P : Params) := (zn Value.none (Data.func (FuncData.mk (zS "dirname") (zS "dirname") (tA (tM 29)) (tB (tM 29)) (tG (tM 29)) 0 [] Value.none Value.none Value.none Value.none none Value.none Value.none 0)))
abbrev zo678 (P : Params) := (zt "code" (Data.fields #[(zs "dirname" 1317), (zs "dirname" 1318), (zs "/claim/cut.py" 1319), (zi 578), (zi 1), (zi 0), (zi 0), (zi 3), (zr 673), (Value.bool Bool.true), (zi 318), (zr 674), Value.none, (zr 675), (zr 676), (zr 677), (zi 1324), (zi 578), (zs "/claim/cut.py" 1325)]))
abbrev zo679 (P : Params) := (zt "function" (Data.func (FuncData.mk (zS "dirname") (zS "dirname") (tA (tM 29)) (tB (tM 29)) (tG (tM 29)) 3 [] Value.none Value.none Value.none (zs "os.path" 1268) none (zr 678) Value.none 0)))
abbrev zo680 (P : Params) := (zt "tuple" (Data.seq #[] 0))
abbrev zo681 (P : Params) := (zt "builtin_function_or_method" (Data.fields #[(Value.builtin "type.__prepare__"), (Value.type "type")]))
abbrev zo682 (P : Params) := (zt "dict" (Data.dict #[(ze P "__module__" 1336 (zs "cpy313.shlex" 1327)), (ze P "__qualname__" 1338 (zs "shlex" 1337)), (ze P "__firstlineno__" 1340 (Value.int 587 1339)), (ze P "__init__" 1352 (zr 694)), (ze P "punctuation_chars" 1360 (zr 702)), (ze P "push_token" 1368 (zr 709)), (ze P "push_source" 1377 (zr 717)), (ze P "pop_source" 1384 (zr 724)), (ze P "get_token" 1396 (zr 731)), (ze P "read_token" 1407 (zr 738)), (ze P "sourcehook" 1415 (zr 745)), (ze P "error_leader" 1424 (zr 753)), (ze P "__iter__" 1431 (zr 760)), (ze P "__next__" 1439 (zr 767)), (ze P "__static_attributes__" 1460 (zr 768))] 15))
abbrev zo683 (P : Params) := (zt "tuple" (Data.seq #[] 0))
abbrev zo684 (P : Params) := (zn Value.none (Data.fields #[(zi 589), (zi 4), (zr 693), (zi 631), (zi 4), (zr 700), (zi 634), (zi 4), (zr 708), (zi 637), (zi 4), (zr 716), (zi 650), (zi 4), (zr 723), (zi 657), (zi 4), (zr 730), (zi 684), (zi 4), (zr 737), (zi 821), (zi 4), (zr 744), (zi 828), (zi 4), (zr 752), (zi 831), (zi 4), (zr 759), (zi 834), (zi 4), (zr 766)]))
abbrev zo685 (P : Params) := (zt "code" (Data.fields #[(zs "shlex" 1331), (zs "shlex" 1332), (zs "/claim/cut.py" 1333), (zi 587), (zi 0), (zi 0), (zi 0), (zi 0), (zr 683), (Value.bool Bool.false), (zi 318), (zr 684), Value.none, Value.none, Value.none, Value.none, (zi 1334), (zi 587), (zs "/claim/cut.py" 1335)]))
abbrev zo686 (P : Params) := (Obj.mk (Value.type "frame") none Data.plain #[(some (zr 685)), (some (zr 3)), (some (zr 682)), none, (some (zs "cpy313.shlex" 1327)), none, (some (zr 0))])
abbrev zo687 (P : Params) := (zt "tuple" (Data.seq #[Value.none, Value.none, (Value.bool Bool.false), (Value.bool Bool.false)] 0))
abbrev zo688 (P : Params) := (zt "tuple" (Data.seq #[] 0))
abbrev zo689 (P : Params) := (zn Value.none (Data.fields #[]))
abbrev zo690 (P : Params) := (zt "tuple" (Data.seq #[(zs "self" 1344), (zs "instream" 1345), (zs "infile" 1346), (zs "posix" 1347), (zs "punctuation_chars" 1348), (zs "t" 1349)] 0))
abbrev zo691 (P : Params) := (zt "tuple" (Data.seq #[] 0))
abbrev zo692 (P : Params) := (zn Value.none (Data.func (FuncData.mk (zS "__init__") (zS "shlex.__init__") (tA (tC (tM 31) 0)) (tB (tC (tM 31) 0)) (tG (tC (tM 31) 0)) 0 [] Value.none Value.none Value.none Value.none none Value.none Value.none 0)))
abbrev zo693 (P : Params) := (zt "code" (Data.fields #[(zs "__init__" 1341), (zs "shlex.__init__" 1342), (zs "/claim/cut.py" 1343), (zi 589), (zi 5), (zi 0), (zi 0), (zi 3), (zr 688), (Value.bool Bool.true), (zi 318), (zr 689), Value.none, (zr 690), (zr 691), (zr 692), (zi 1350), (zi 589), (zs "/claim/cut.py" 1351)]))
abbrev zo694 (P : Params) := (zt "function" (Data.func (FuncData.mk (zS "__init__") (zS "shlex.__init__") (tA (tC (tM 31) 0)) (tB (tC (tM 31) 0)) (tG (tC (tM 31) 0)) 3 [] (zr 687) Value.none Value.none (zs "cpy313.shlex" 1327) none (zr 693) Value.none 0)))
abbrev zo695 (P : Params) := (zt "tuple" (Data.seq #[] 0))
abbrev zo696 (P : Params) := (zn Value.none (Data.fields #[]))
abbrev zo697 (P : Params) := (zt "tuple" (Data.seq #[(zs "self" 1356)] 0))
abbrev zo698 (P : Params) := (zt "tuple" (Data.seq #[] 0))
abbrev zo699 (P : Params) := (zn Value.none (Data.func (FuncData.mk (zS "punctuation_chars") (zS "shlex.punctuation_chars") (tA (tC (tM 31) 1)) (tB (tC (tM 31) 1)) (tG (tC (tM 31) 1)) 0 [] Value.none Value.none Value.none Value.none none Value.none Value.none 0)))
abbrev zo700 (P : Params) := (zt "code" (Data.fields #[(zs "punctuation_chars" 1353), (zs "shlex.punctuation_chars" 1354), (zs "/claim/cut.py" 1355), (zi 630), (zi 1), (zi 0), (zi 0), (zi 3), (zr 695), (Value.bool Bool.true), (zi 318), (zr 696), Value.none, (zr 697), (zr 698), (zr 699), (zi 1357), (zi 630), (zs "/claim/cut.py" 1358)]))
abbrev zo701 (P : Params) := (zt "function" (Data.func (FuncData.mk (zS "punctuation_chars") (zS "shlex.punctuation_chars") (tA (tC (tM 31) 1)) (tB (tC (tM 31) 1)) (tG (tC (tM 31) 1)) 3 [] Value.none Value.none Value.none (zs "cpy313.shlex" 1327) none (zr 700) Value.none 0)))
abbrev zo702 (P : Params) := (zt "property" (Data.fields #[(zr 701), Value.none, Value.none, Value.none, (zs "punctuation_chars" 1360), (Value.bool Bool.false)]))
abbrev zo703 (P : Params) := (zt "tuple" (Data.seq #[] 0))
abbrev zo704 (P : Params) := (zn Value.none (Data.fields #[]))
abbrev zo705 (P : Params) := (zt "tuple" (Data.seq #[(zs "self" 1364), (zs "tok" 1365)] 0))
abbrev zo706 (P : Params) := (zt "tuple" (Data.seq #[] 0))
abbrev zo707 (P : Params) := (zn Value.none (Data.func (FuncData.mk (zS "push_token") (zS "shlex.push_token") (tA (tC (tM 31) 2)) (tB (tC (tM 31) 2)) (tG (tC (tM 31) 2)) 0 [] Value.none Value.none Value.none Value.none none Value.none Value.none 0)))
abbrev zo708 (P : Params) := (zt "code" (Data.fields #[(zs "push_token" 1361), (zs "shlex.push_token" 1362), (zs "/claim/cut.py" 1363), (zi 634), (zi 2), (zi 0), (zi 0), (zi 3), (zr 703), (Value.bool Bool.true), (zi 318), (zr 704), Value.none, (zr 705), (zr 706), (zr 707), (zi 1366), (zi 634), (zs "/claim/cut.py" 1367)]))
abbrev zo709 (P : Params) := (zt "function" (Data.func (FuncData.mk (zS "push_token") (zS "shlex.push_token") (tA (tC (tM 31) 2)) (tB (tC (tM 31) 2)) (tG (tC (tM 31) 2)) 3 [] Value.none Value.none Value.none (zs "cpy313.shlex" 1327) none (zr 708) Value.none 0)))
abbrev zo710 (P : Params) := (zt "tuple" (Data.seq #[Value.none] 0))
abbrev zo711 (P : Params) := (zt "tuple" (Data.seq #[] 0))
abbrev zo712 (P : Params) := (zn Value.none (Data.fields #[]))
abbrev zo713 (P : Params) := (zt "tuple" (Data.seq #[(zs "self" 1372), (zs "newstream" 1373), (zs "newfile" 1374)] 0))
abbrev zo714 (P : Params) := (zt "tuple" (Data.seq #[] 0))
abbrev zo715 (P : Params) := (zn Value.none (Data.func (FuncData.mk (zS "push_source") (zS "shlex.push_source") (tA (tC (tM 31) 3)) (tB (tC (tM 31) 3)) (tG (tC (tM 31) 3)) 0 [] Value.none Value.none Value.none Value.none none Value.none Value.none 0)))
abbrev zo716 (P : Params) := (zt "code" (Data.fields #[(zs "push_source" 1369), (zs "shlex.push_source" 1370), (zs "/claim/cut.py" 1371), (zi 637), (zi 3), (zi 0), (zi 0), (zi 3), (zr 711), (Value.bool Bool.true), (zi 318), (zr 712), Value.none, (zr 713), (zr 714), (zr 715), (zi 1375), (zi 637), (zs "/claim/cut.py" 1376)]))
abbrev zo717 (P : Params) := (zt "function" (Data.func (FuncData.mk (zS "push_source") (zS "shlex.push_source") (tA (tC (tM 31) 3)) (tB (tC (tM 31) 3)) (tG (tC (tM 31) 3)) 3 [] (zr 710) Value.none Value.none (zs "cpy313.shlex" 1327) none (zr 716) Value.none 0)))
abbrev zo718 (P : Params) := (zt "tuple" (Data.seq #[] 0))
abbrev zo719 (P : Params) := (zn Value.none (Data.fields #[]))
abbrev zo720 (P : Params) := (zt "tuple" (Data.seq #[(zs "self" 1381)] 0))
abbrev zo721 (P : Params) := (zt "tuple" (Data.seq #[] 0))
abbrev zo722 (P : Params) := (zn Value.none (Data.func (FuncData.mk (zS "pop_source") (zS "shlex.pop_source") (tA (tC (tM 31) 4)) (tB (tC (tM 31) 4)) (tG (tC (tM 31) 4)) 0 [] Value.none Value.none Value.none Value.none none Value.none Value.none 0)))
abbrev zo723 (P : Params) := (zt "code" (Data.fields #[(zs "pop_source" 1378), (zs "shlex.pop_source" 1379), (zs "/claim/cut.py" 1380), (zi 650), (zi 1), (zi 0), (zi 0), (zi 3), (zr 718), (Value.bool Bool.true), (zi 318), (zr 719), Value.none, (zr 720), (zr 721), (zr 722), (zi 1382), (zi 650), (zs "/claim/cut.py" 1383)]))
abbrev zo724 (P : Params) := (zt "function" (Data.func (FuncData.mk (zS "pop_source") (zS "shlex.pop_source") (tA (tC (tM 31) 4)) (tB (tC (tM 31) 4)) (tG (tC (tM 31) 4)) 3 [] Value.none Value.none Value.none (zs "cpy313.shlex" 1327) none (zr 723) Value.none 0)))
abbrev zo725 (P : Params) := (zt "tuple" (Data.seq #[] 0))
abbrev zo726 (P : Params) := (zn Value.none (Data.fields #[]))
abbrev zo727 (P : Params) := (zt "tuple" (Data.seq #[(zs "self" 1388), (zs "tok" 1389), (zs "raw" 1390), (zs "spec" 1391), (zs "newfile" 1392), (zs "newstream" 1393)] 0))
abbrev zo728 (P : Params) := (zt "tuple" (Data.seq #[] 0))
abbrev zo729 (P : Params) := (zn Value.none (Data.func (FuncData.mk (zS "get_token") (zS "shlex.get_token") (tA (tC (tM 31) 5)) (tB (tC (tM 31) 5)) (tG (tC (tM 31) 5)) 0 [] Value.none Value.none Value.none Value.none none Value.none Value.none 0)))
abbrev zo730 (P : Params) := (zt "code" (Data.fields #[(zs "get_token" 1385), (zs "shlex.get_token" 1386), (zs "/claim/cut.py" 1387), (zi 657), (zi 1), (zi 0), (zi 0), (zi 3), (zr 725), (Value.bool Bool.true), (zi 318), (zr 726), Value.none, (zr 727), (zr 728), (zr 729), (zi 1394), (zi 657), (zs "/claim/cut.py" 1395)]))
abbrev zo731 (P : Params) := (zt "function" (Data.func (FuncData.mk (zS "get_token") (zS "shlex.get_token") (tA (tC (tM 31) 5)) (tB (tC (tM 31) 5)) (tG (tC (tM 31) 5)) 3 [] Value.none Value.none Value.none (zs "cpy313.shlex" 1327) none (zr 730) Value.none 0)))
abbrev zo732 (P : Params) := (zt "tuple" (Data.seq #[] 0))
abbrev zo733 (P : Params) := (zn Value.none (Data.fields #[]))
abbrev zo734 (P : Params) := (zt "tuple" (Data.seq #[(zs "self" 1400), (zs "quoted" 1401), (zs "escapedstate" 1402), (zs "nextchar" 1403), (zs "result" 1404)] 0))
abbrev zo735 (P : Params) := (zt "tuple" (Data.seq #[] 0))
abbrev zo736 (P : Params) := (zn Value.none (Data.func (FuncData.mk (zS "read_token") (zS "shlex.read_token") (tA (tC (tM 31) 6)) (tB (tC (tM 31) 6)) (tG (tC (tM 31) 6)) 0 [] Value.none Value.none Value.none Value.none none Value.none Value.none 0)))
abbrev zo737 (P : Params) := (zt "code" (Data.fields #[(zs "read_token" 1397), (zs "shlex.read_token" 1398), (zs "/claim/cut.py" 1399), (zi 684), (zi 1), (zi 0), (zi 0), (zi 3), (zr 732), (Value.bool Bool.true), (zi 318), (zr 733), Value.none, (zr 734), (zr 735), (zr 736), (zi 1405), (zi 684), (zs "/claim/cut.py" 1406)]))
abbrev zo738 (P : Params) := (zt "function" (Data.func (FuncData.mk (zS "read_token") (zS "shlex.read_token") (tA (tC (tM 31) 6)) (tB (tC (tM 31) 6)) (tG (tC (tM 31) 6)) 3 [] Value.none Value.none Value.none (zs "cpy313.shlex" 1327) none (zr 737) Value.none 0)))
abbrev zo739 (P : Params) := (zt "tuple" (Data.seq #[] 0))
abbrev zo740 (P : Params) := (zn Value.none (Data.fields #[]))
abbrev zo741 (P : Params) := (zt "tuple" (Data.seq #[(zs "self" 1411), (zs "newfile" 1412)] 0))
abbrev zo742 (P : Params) := (zt "tuple" (Data.seq #[] 0))
abbrev zo743 (P : Params) := (zn Value.none (Data.func (FuncData.mk (zS "sourcehook") (zS "shlex.sourcehook") (tA (tC (tM 31) 7)) (tB (tC (tM 31) 7)) (tG (tC (tM 31) 7)) 0 [] Value.none Value.none Value.none Value.none none Value.none Value.none 0)))
abbrev zo744 (P : Params) := (zt "code" (Data.fields #[(zs "sourcehook" 1408), (zs "shlex.sourcehook" 1409), (zs "/claim/cut.py" 1410), (zi 821), (zi 2), (zi 0), (zi 0), (zi 3), (zr 739), (Value.bool Bool.true), (zi 318), (zr 740), Value.none, (zr 741), (zr 742), (zr 743), (zi 1413), (zi 821), (zs "/claim/cut.py" 1414)]))
abbrev zo745 (P : Params) := (zt "function" (Data.func (FuncData.mk (zS "sourcehook") (zS "shlex.sourcehook") (tA (tC (tM 31) 7)) (tB (tC (tM 31) 7)) (tG (tC (tM 31) 7)) 3 [] Value.none Value.none Value.none (zs "cpy313.shlex" 1327) none (zr 744) Value.none 0)))
abbrev zo746 (P : Params) := (zt "tuple" (Data.seq #[Value.none, Value.none] 0))
abbrev zo747 (P : Params) := (zt "tuple" (Data.seq #[] 0))
abbrev zo748 (P : Params) := (zn Value.none (Data.fields #[]))
abbrev zo749 (P : Params) := (zt "tuple" (Data.seq #[(zs "self" 1419), (zs "infile" 1420), (zs "lineno" 1421)] 0))
abbrev zo750 (P : Params) := (zt "tuple" (Data.seq #[] 0))
abbrev zo751 (P : Params) := (zn Value.none (Data.func (FuncData.mk (zS "error_leader") (zS "shlex.error_leader") (tA (tC (tM 31) 8)) (tB (tC (tM 31) 8)) (tG (tC (tM 31) 8)) 0 [] Value.none Value.none Value.none Value.none none Value.none Value.none 0)))
abbrev zo752 (P : Params) := (zt "code" (Data.fields #[(zs "error_leader" 1416), (zs "shlex.error_leader" 1417), (zs "/claim/cut.py" 1418), (zi 828), (zi 3), (zi 0), (zi 0), (zi 3), (zr 747), (Value.bool Bool.true), (zi 318), (zr 748), Value.none, (zr 749), (zr 750), (zr 751), (zi 1422), (zi 828), (zs "/claim/cut.py" 1423)]))
abbrev zo753 (P : Params) := (zt "function" (Data.func (FuncData.mk (zS "error_leader") (zS "shlex.error_leader") (tA (tC (tM 31) 8)) (tB (tC (tM 31) 8)) (tG (tC (tM 31) 8)) 3 [] (zr 746) Value.none Value.none (zs "cpy313.shlex" 1327) none (zr 752) Value.none 0)))
abbrev zo754 (P : Params) := (zt "tuple" (Data.seq #[] 0))
abbrev zo755 (P : Params) := (zn Value.none (Data.fields #[]))
abbrev zo756 (P : Params) := (zt "tuple" (Data.seq #[(zs "self" 1428)] 0))
abbrev zo757 (P : Params) := (zt "tuple" (Data.seq #[] 0))
abbrev zo758 (P : Params) := (zn Value.none (Data.func (FuncData.mk (zS "__iter__") (zS "shlex.__iter__") (tA (tC (tM 31) 9)) (tB (tC (tM 31) 9)) (tG (tC (tM 31) 9)) 0 [] Value.none Value.none Value.none Value.none none Value.none Value.none 0)))
abbrev zo759 (P : Params) := (zt "code" (Data.fields #[(zs "__iter__" 1425), (zs "shlex.__iter__" 1426), (zs "/claim/cut.py" 1427), (zi 831), (zi 1), (zi 0), (zi 0), (zi 3), (zr 754), (Value.bool Bool.true), (zi 318), (zr 755), Value.none, (zr 756), (zr 757), (zr 758), (zi 1429), (zi 831), (zs "/claim/cut.py" 1430)]))
abbrev zo760 (P : Params) := (zt "function" (Data.func (FuncData.mk (zS "__iter__") (zS "shlex.__iter__") (tA (tC (tM 31) 9)) (tB (tC (tM 31) 9)) (tG (tC (tM 31) 9)) 3 [] Value.none Value.none Value.none (zs "cpy313.shlex" 1327) none (zr 759) Value.none 0)))
abbrev zo761 (P : Params) := (zt "tuple" (Data.seq #[] 0))
abbrev zo762 (P : Params) := (zn Value.none (Data.fields #[]))
abbrev zo763 (P : Params) := (zt "tuple" (Data.seq #[(zs "self" 1435), (zs "token" 1436)] 0))
abbrev zo764 (P : Params) := (zt "tuple" (Data.seq #[] 0))
abbrev zo765 (P : Params) := (zn Value.none (Data.func (FuncData.mk (zS "__next__") (zS "shlex.__next__") (tA (tC (tM 31) 10)) (tB (tC (tM 31) 10)) (tG (tC (tM 31) 10)) 0 [] Value.none Value.none Value.none Value.none none Value.none Value.none 0)))
abbrev zo766 (P : Params) := (zt "code" (Data.fields #[(zs "__next__" 1432), (zs "shlex.__next__" 1433), (zs "/claim/cut.py" 1434), (zi 834), (zi 1), (zi 0), (zi 0), (zi 3), (zr 761), (Value.bool Bool.true), (zi 318), (zr 762), Value.none, (zr 763), (zr 764), (zr 765), (zi 1437), (zi 834), (zs "/claim/cut.py" 1438)]))
abbrev zo767 (P : Params) := (zt "function" (Data.func (FuncData.mk (zS "__next__") (zS "shlex.__next__") (tA (tC (tM 31) 10)) (tB (tC (tM 31) 10)) (tG (tC (tM 31) 10)) 3 [] Value.none Value.none Value.none (zs "cpy313.shlex" 1327) none (zr 766) Value.none 0)))
abbrev zo768 (P : Params) := (zt "tuple" (Data.seq #[(zs "_punctuation_chars" 1440), (zs "_pushback_chars" 1441), (zs "commenters" 1442), (zs "debug" 1443), (zs "eof" 1444), (zs "escape" 1445), (zs "escapedquotes" 1446), (zs "filestack" 1447), (zs "infile" 1448), (zs "instream" 1449), (zs "lineno" 1450), (zs "posix" 1451), (zs "pushback" 1452), (zs "quotes" 1453), (zs "source" 1454), (zs "state" 1455), (zs "token" 1456), (zs "whitespace" 1457), (zs "whitespace_split" 1458), (zs "wordchars" 1459)] 0))
abbrev zo769 (P : Params) := (zt "dict" (Data.dict #[(ze P "__module__" 1336 (zs "cpy313.shlex" 1327)), (ze P "__firstlineno__" 1340 (Value.int 587 1339)), (ze P "__init__" 1352 (zr 694)), (ze P "punctuation_chars" 1360 (zr 702)), (ze P "push_token" 1368 (zr 709)), (ze P "push_source" 1377 (zr 717)), (ze P "pop_source" 1384 (zr 724)), (ze P "get_token" 1396 (zr 731)), (ze P "read_token" 1407 (zr 738)), (ze P "sourcehook" 1415 (zr 745)), (ze P "error_leader" 1424 (zr 753)), (ze P "__iter__" 1431 (zr 760)), (ze P "__next__" 1439 (zr 767)), (ze P "__static_attributes__" 1460 (zr 768)), (ze P "__dict__" 1462 (zr 771)), (ze P "__weakref__" 1464 (zr 772)), (ze P "__doc__" 1465 Value.none)] 4))
abbrev zo770 (P : Params) := (Obj.mk (Value.type "type") none (Data.cls (ClassData.mk (zS "shlex") [(Value.type "object")] [(zr 770), (Value.type "object")] 769 (zS "shlex") Bool.true [] [] Bool.false none Bool.false)) #[none, none, (some (zs "shlex" 1329)), (some (zs "shlex" 1337)), (some (Value.builtin "object.__new__")), (some (Value.bool Bool.true))])
abbrev zo771 (P : Params) := (zt "getset_descriptor" (Data.fields #[(zs "__dict__" 1461), (zr 770), (Value.builtin "function.__dict__"), (Value.builtin "function.__dict__#set")]))
abbrev zo772 (P : Params) := (zt "getset_descriptor" (Data.fields #[(zs "__weakref__" 1463), (zr 770), (Value.builtin "ExceptionGroup.__weakref__"), Value.none]))
abbrev zo773 (P : Params) := (zt "super" (Data.fields #[(zr 770), (zr 770), (zr 770)]))
abbrev zo774 (P : Params) := (zt "builtin_function_or_method" (Data.fields #[(Value.builtin "object.__init_subclass__"), (zr 770)]))
abbrev zo775 (P : Params) := (zt "tuple" (Data.seq #[(Value.bool Bool.false), (Value.bool Bool.true)] 0))
abbrev zo776 (P : Params) := (zt "tuple" (Data.seq #[] 0))
abbrev zo777 (P : Params) := (zn Value.none (Data.fields #[]))
abbrev zo778 (P : Params) := (zt "tuple" (Data.seq #[(zs "s" 1471), (zs "comments" 1472), (zs "posix" 1473), (zs "lex" 1474)] 0))
abbrev zo779 (P : Params) := (zt "tuple" (Data.seq #[] 0))
abbrev zo780 (P : Params) := (zn Value.none (Data.func (FuncData.mk (zS "split") (zS "split") (tA (tM 32)) (tB (tM 32)) (tG (tM 32)) 0 [] Value.none Value.none Value.none Value.none none Value.none Value.none 0)))
abbrev zo781 (P : Params) := (zt "code" (Data.fields #[(zs "split" 1468), (zs "split" 1469), (zs "/claim/cut.py" 1470), (zi 839), (zi 3), (zi 0), (zi 0), (zi 3), (zr 776), (Value.bool Bool.true), (zi 318), (zr 777), Value.none, (zr 778), (zr 779), (zr 780), (zi 1475), (zi 839), (zs "/claim/cut.py" 1476)]))
abbrev zo782 (P : Params) := (zt "function" (Data.func (FuncData.mk (zS "split") (zS "split") (tA (tM 32)) (tB (tM 32)) (tG (tM 32)) 3 [] (zr 775) Value.none Value.none (zs "cpy313.shlex" 1327) none (zr 781) Value.none 0)))
abbrev zo783 (P : Params) := (zt "tuple" (Data.seq #[] 0))
abbrev zo784 (P : Params) := (zn Value.none (Data.fields #[]))
abbrev zo785 (P : Params) := (zt "tuple" (Data.seq #[(zs "split_command" 1481)] 0))
abbrev zo786 (P : Params) := (zt "tuple" (Data.seq #[] 0))
abbrev zo787 (P : Params) := (zn Value.none (Data.func (FuncData.mk (zS "join") (zS "join") (tA (tM 33)) (tB (tM 33)) (tG (tM 33)) 0 [] Value.none Value.none Value.none Value.none none Value.none Value.none 0)))
abbrev zo788 (P : Params) := (zt "code" (Data.fields #[(zs "join" 1478), (zs "join" 1479), (zs "/claim/cut.py" 1480), (zi 847), (zi 1), (zi 0), (zi 0), (zi 3), (zr 783), (Value.bool Bool.true), (zi 318), (zr 784), Value.none, (zr 785), (zr 786), (zr 787), (zi 1482), (zi 847), (zs "/claim/cut.py" 1483)]))
abbrev zo789 (P : Params) := (zt "function" (Data.func (FuncData.mk (zS "join") (zS "join") (tA (tM 33)) (tB (tM 33)) (tG (tM 33)) 3 [] Value.none Value.none Value.none (zs "cpy313.shlex" 1327) none (zr 788) Value.none 0)))
abbrev zo790 (P : Params) := (zt "builtin_function_or_method" (Data.fields #[(Value.builtin "re.Pattern.search"), (zr 87)]))
abbrev zo791 (P : Params) := (zt "tuple" (Data.seq #[] 0))
abbrev zo792 (P : Params) := (zn Value.none (Data.fields #[]))
abbrev zo793 (P : Params) := (zt "tuple" (Data.seq #[(zs "s" 1491)] 0))
abbrev zo794 (P : Params) := (zt "tuple" (Data.seq #[] 0))
abbrev zo795 (P : Params) := (zn Value.none (Data.func (FuncData.mk (zS "quote") (zS "quote") (tA (tM 36)) (tB (tM 36)) (tG (tM 36)) 0 [] Value.none Value.none Value.none Value.none none Value.none Value.none 0)))
abbrev zo796 (P : Params) := (zt "code" (Data.fields #[(zs "quote" 1488), (zs "quote" 1489), (zs "/claim/cut.py" 1490), (zi 851), (zi 1), (zi 0), (zi 0), (zi 3), (zr 791), (Value.bool Bool.true), (zi 318), (zr 792), Value.none, (zr 793), (zr 794), (zr 795), (zi 1492), (zi 851), (zs "/claim/cut.py" 1493)]))
abbrev zo797 (P : Params) := (zt "function" (Data.func (FuncData.mk (zS "quote") (zS "quote") (tA (tM 36)) (tB (tM 36)) (tG (tM 36)) 3 [] Value.none Value.none Value.none (zs "cpy313.shlex" 1327) none (zr 796) Value.none 0)))
abbrev zo798 (P : Params) := (zt "tuple" (Data.seq #[] 0))
abbrev zo799 (P : Params) := (zn Value.none (Data.fields #[]))
abbrev zo800 (P : Params) := (zn Value.none (Data.func (FuncData.mk (zS "_law_names") (zS "_law_names") (tA (tM 38)) (tB (tM 38)) (tG (tM 38)) 0 [] Value.none Value.none Value.none Value.none none Value.none Value.none 0)))
abbrev zo801 (P : Params) := (zt "code" (Data.fields #[(zs "_law_names" 1497), (zs "_law_names" 1498), (zs "/claim/cut.py" 1499), (zi 858), (zi 1), (zi 0), (zi 0), (zi 3), (zr 798), (Value.bool Bool.true), (zi 318), (zr 799), Value.none, Value.none, Value.none, (zr 800), (zi 1500), (zi 858), (zs "/claim/cut.py" 1501)]))
abbrev zo802 (P : Params) := (zt "function" (Data.func (FuncData.mk (zS "_law_names") (zS "_law_names") (tA (tM 38)) (tB (tM 38)) (tG (tM 38)) 3 [] Value.none Value.none Value.none (zs "law_ij0188_01" 1495) none (zr 801) Value.none 0)))
abbrev zo803 (P : Params) := (zt "tuple" (Data.seq #[] 0))
abbrev zo804 (P : Params) := (zn Value.none (Data.fields #[]))
abbrev zo805 (P : Params) := (zn Value.none (Data.func (FuncData.mk (zS "_law_words") (zS "_law_words") (tA (tM 39)) (tB (tM 39)) (tG (tM 39)) 0 [] Value.none Value.none Value.none Value.none none Value.none Value.none 0)))
abbrev zo806 (P : Params) := (zt "code" (Data.fields #[(zs "_law_words" 1503), (zs "_law_words" 1504), (zs "/claim/cut.py" 1505), (zi 865), (zi 1), (zi 0), (zi 0), (zi 3), (zr 803), (Value.bool Bool.true), (zi 318), (zr 804), Value.none, Value.none, Value.none, (zr 805), (zi 1506), (zi 865), (zs "/claim/cut.py" 1507)]))
abbrev zo807 (P : Params) := (zt "function" (Data.func (FuncData.mk (zS "_law_words") (zS "_law_words") (tA (tM 39)) (tB (tM 39)) (tG (tM 39)) 3 [] Value.none Value.none Value.none (zs "law_ij0188_01" 1495) none (zr 806) Value.none 0)))
abbrev zo808 (P : Params) := (zt "tuple" (Data.seq #[] 0))
abbrev zo809 (P : Params) := (zn Value.none (Data.fields #[]))
abbrev zo810 (P : Params) := (zt "tuple" (Data.seq #[(zs "part" 1512), (zs "sign" 1513)] 0))
abbrev zo811 (P : Params) := (zt "tuple" (Data.seq #[] 0))
abbrev zo812 (P : Params) := (zn Value.none (Data.func (FuncData.mk (zS "_law_takes") (zS "_law_takes") (tA (tM 40)) (tB (tM 40)) (tG (tM 40)) 0 [] Value.none Value.none Value.none Value.none none Value.none Value.none 0)))
abbrev zo813 (P : Params) := (zt "code" (Data.fields #[(zs "_law_takes" 1509), (zs "_law_takes" 1510), (zs "/claim/cut.py" 1511), (zi 868), (zi 2), (zi 0), (zi 0), (zi 3), (zr 808), (Value.bool Bool.true), (zi 318), (zr 809), Value.none, (zr 810), (zr 811), (zr 812), (zi 1514), (zi 868), (zs "/claim/cut.py" 1515)]))
abbrev zo814 (P : Params) := (zt "function" (Data.func (FuncData.mk (zS "_law_takes") (zS "_law_takes") (tA (tM 40)) (tB (tM 40)) (tG (tM 40)) 3 [] Value.none Value.none Value.none (zs "law_ij0188_01" 1495) none (zr 813) Value.none 0)))
abbrev zo815 (P : Params) := (zt "tuple" (Data.seq #[] 0))
abbrev zo816 (P : Params) := (zn Value.none (Data.fields #[]))
abbrev zo817 (P : Params) := (zn Value.none (Data.func (FuncData.mk (zS "_law_opened") (zS "_law_opened") (tA (tM 41)) (tB (tM 41)) (tG (tM 41)) 0 [] Value.none Value.none Value.none Value.none none Value.none Value.none 0)))
abbrev zo818 (P : Params) := (zt "code" (Data.fields #[(zs "_law_opened" 1517), (zs "_law_opened" 1518), (zs "/claim/cut.py" 1519), (zi 874), (zi 2), (zi 0), (zi 0), (zi 3), (zr 815), (Value.bool Bool.true), (zi 318), (zr 816), Value.none, Value.none, Value.none, (zr 817), (zi 1520), (zi 874), (zs "/claim/cut.py" 1521)]))
abbrev zo819 (P : Params) := (zt "function" (Data.func (FuncData.mk (zS "_law_opened") (zS "_law_opened") (tA (tM 41)) (tB (tM 41)) (tG (tM 41)) 3 [] Value.none Value.none Value.none (zs "law_ij0188_01" 1495) none (zr 818) Value.none 0)))
abbrev zo820 (P : Params) := (zt "tuple" (Data.seq #[] 0))
abbrev zo821 (P : Params) := (zn Value.none (Data.fields #[]))
abbrev zo822 (P : Params) := (zt "tuple" (Data.seq #[(zs "glob" 1526), (zs "name" 1527), (zs "shape" 1528)] 0))
abbrev zo823 (P : Params) := (zt "tuple" (Data.seq #[] 0))
abbrev zo824 (P : Params) := (zn Value.none (Data.func (FuncData.mk (zS "_law_said") (zS "_law_said") (tA (tM 42)) (tB (tM 42)) (tG (tM 42)) 0 [] Value.none Value.none Value.none Value.none none Value.none Value.none 0)))
abbrev zo825 (P : Params) := (zt "code" (Data.fields #[(zs "_law_said" 1523), (zs "_law_said" 1524), (zs "/claim/cut.py" 1525), (zi 889), (zi 2), (zi 0), (zi 0), (zi 3), (zr 820), (Value.bool Bool.true), (zi 318), (zr 821), Value.none, (zr 822), (zr 823), (zr 824), (zi 1529), (zi 889), (zs "/claim/cut.py" 1530)]))
abbrev zo826 (P : Params) := (zt "function" (Data.func (FuncData.mk (zS "_law_said") (zS "_law_said") (tA (tM 42)) (tB (tM 42)) (tG (tM 42)) 3 [] Value.none Value.none Value.none (zs "law_ij0188_01" 1495) none (zr 825) Value.none 0)))
abbrev zo827 (P : Params) := (zt "tuple" (Data.seq #[] 0))
abbrev zo828 (P : Params) := (zn Value.none (Data.fields #[]))
abbrev zo829 (P : Params) := (zt "tuple" (Data.seq #[(zs "first" 1535), (zs "second" 1536), (zs "missing" 1537), (zs "place" 1538), (zs "left" 1539)] 0))
abbrev zo830 (P : Params) := (zt "tuple" (Data.seq #[] 0))
abbrev zo831 (P : Params) := (zn Value.none (Data.func (FuncData.mk (zS "_law_apart") (zS "_law_apart") (tA (tM 43)) (tB (tM 43)) (tG (tM 43)) 0 [] Value.none Value.none Value.none Value.none none Value.none Value.none 0)))
abbrev zo832 (P : Params) := (zt "code" (Data.fields #[(zs "_law_apart" 1532), (zs "_law_apart" 1533), (zs "/claim/cut.py" 1534), (zi 893), (zi 2), (zi 0), (zi 0), (zi 3), (zr 827), (Value.bool Bool.true), (zi 318), (zr 828), Value.none, (zr 829), (zr 830), (zr 831), (zi 1540), (zi 893), (zs "/claim/cut.py" 1541)]))
abbrev zo833 (P : Params) := (zt "function" (Data.func (FuncData.mk (zS "_law_apart") (zS "_law_apart") (tA (tM 43)) (tB (tM 43)) (tG (tM 43)) 3 [] Value.none Value.none Value.none (zs "law_ij0188_01" 1495) none (zr 832) Value.none 0)))
abbrev zo834 (P : Params) := (zt "tuple" (Data.seq #[] 0))
abbrev zo835 (P : Params) := (zn Value.none (Data.fields #[]))
abbrev zo836 (P : Params) := (zn Value.none (Data.func (FuncData.mk (zS "law") (zS "law") (tA (tM 44)) (tB (tM 44)) (tG (tM 44)) 0 [] Value.none Value.none Value.none Value.none none Value.none Value.none 0)))
abbrev zo837 (P : Params) := (zt "code" (Data.fields #[(zs "law" 1543), (zs "law" 1544), (zs "/claim/cut.py" 1545), (zi 903), (zi 1), (zi 0), (zi 0), (zi 3), (zr 834), (Value.bool Bool.true), (zi 318), (zr 835), Value.none, Value.none, Value.none, (zr 836), (zi 1546), (zi 903), (zs "/claim/cut.py" 1547)]))
abbrev zo838 (P : Params) := (zt "function" (Data.func (FuncData.mk (zS "law") (zS "law") (tA (tM 44)) (tB (tM 44)) (tG (tM 44)) 3 [] Value.none Value.none Value.none (zs "law_ij0188_01" 1495) none (zr 837) Value.none 0)))
abbrev zo2v0 (P : Params) := (zn Value.none (Data.dict #[(ze P "\x69mport.loaded._sre" 183 (Value.bool Bool.true)), (ze P "class._frozen_importlib.BuiltinImporter" 185 (zr 14)), (ze P "watched.\x69mport" 206 (zr 18)), (ze P "class._frozen_importlib.ModuleSpec" 216 (zr 22)), (ze P "sys.modules.booked-epoch" 245 (zi 4)), (ze P "\x69mport.later-laid._sre" 270 (Value.bool Bool.true)), (ze P "watched.library" 272 (zr 27)), (ze P "watched.library-objects" 0 (zs "\x0c\x1e" 0)), (ze P "watched.library-deep._sre" 273 (zs "\x04\x00\x00\x0b\x04\x00\x00\x0b\x04\x00\x00\x03\x04\x00\x00\x0b\x08\x04dict\x02" 0)), (ze P "\x69mport.loaded._collections" 280 (Value.bool Bool.true)), (ze P "sys.modules.landed._collections" 294 (Value.bool Bool.true)), (ze P "\x69mport.later-laid._collections" 309 (Value.bool Bool.true)), (ze P "watched.library-deep._collections" 311 (zs "\x04\x00\x00\x1d\x04\x00\x00\x1d\x04\x00\x00\x03\x04\x00\x00\x1d\x08\x04dict\x02" 0))] 13))
abbrev zo3v0 (P : Params) := (zt "dict" (Data.dict #[(ze P "__name__" 165 (zs "__main__" 164)), (ze P "__doc__" 166 Value.none), (ze P "__package__" 167 Value.none), (ze P "__loader__" 168 (Value.builtin "__main__.__loader__#opaque")), (ze P "__spec__" 169 Value.none), (ze P "__annotations__" 170 (zr 6)), (ze P "__builtins__" 171 (zr 4)), (ze P "__file__" 173 (zs "/claim/cut.py" 172)), (ze P "__cached__" 174 Value.none), (ze P "_sre" 275 (zr 12)), (ze P "deque" 317 (Value.type "collections.deque"))] 11))
abbrev zo35v1 (P : Params) := (zn Value.none (Data.fields #[]))
abbrev zo3v3 (P : Params) := (zt "dict" (Data.dict #[(ze P "__name__" 165 (zs "re" 395)), (ze P "__doc__" 166 Value.none), (ze P "__package__" 167 Value.none), (ze P "__loader__" 168 (Value.builtin "__main__.__loader__#opaque")), (ze P "__spec__" 169 Value.none), (ze P "__annotations__" 170 (zr 6)), (ze P "__builtins__" 171 (zr 4)), (ze P "__file__" 173 (zs "/claim/cut.py" 172)), (ze P "__cached__" 174 Value.none), (ze P "_sre" 275 (zr 12)), (ze P "deque" 317 (Value.type "collections.deque")), (ze P "_wall" 330 (zr 44)), (ze P "sorted_list_difference" 346 (zr 51)), (ze P "unorderable_list_difference" 356 (zr 58)), (ze P "twin_re_1_fnmatch" 394 (zr 63))] 15))
abbrev zo35v3 (P : Params) := (zn Value.none (Data.fields #[(zi 3), (zi 0), (zr 43), (zi 7), (zi 0), (zr 50), (zi 39), (zi 0), (zr 57)]))
abbrev zo3v4 (P : Params) := (zt "dict" (Data.dict #[(ze P "__name__" 165 (zs "re" 395)), (ze P "__doc__" 166 Value.none), (ze P "__package__" 167 Value.none), (ze P "__loader__" 168 (Value.builtin "__main__.__loader__#opaque")), (ze P "__spec__" 169 Value.none), (ze P "__annotations__" 170 (zr 6)), (ze P "__builtins__" 171 (zr 4)), (ze P "__file__" 173 (zs "/claim/cut.py" 172)), (ze P "__cached__" 174 Value.none), (ze P "_sre" 275 (zr 12)), (ze P "deque" 317 (Value.type "collections.deque")), (ze P "_wall" 330 (zr 44)), (ze P "sorted_list_difference" 346 (zr 51)), (ze P "unorderable_list_difference" 356 (zr 58)), (ze P "twin_re_1_fnmatch" 394 (zr 63)), (ze P "_special_chars_map" 542 (zr 65))] 16))
abbrev zo3v5 (P : Params) := (zt "dict" (Data.dict #[(ze P "__name__" 165 (zs "io" 611)), (ze P "__doc__" 166 Value.none), (ze P "__package__" 167 Value.none), (ze P "__loader__" 168 (Value.builtin "__main__.__loader__#opaque")), (ze P "__spec__" 169 Value.none), (ze P "__annotations__" 170 (zr 6)), (ze P "__builtins__" 171 (zr 4)), (ze P "__file__" 173 (zs "/claim/cut.py" 172)), (ze P "__cached__" 174 Value.none), (ze P "_sre" 275 (zr 12)), (ze P "deque" 317 (Value.type "collections.deque")), (ze P "_wall" 330 (zr 44)), (ze P "sorted_list_difference" 346 (zr 51)), (ze P "unorderable_list_difference" 356 (zr 58)), (ze P "twin_re_1_fnmatch" 394 (zr 63)), (ze P "_special_chars_map" 542 (zr 65)), (ze P "escape" 549 (zr 75)), (ze P "_translate" 570 (zr 82)), (ze P "twin_re_1_shlex" 610 (zr 87)), (ze P "_whence" 620 (zr 94)), (ze P "_index" 628 (zr 101)), (ze P "UnsupportedOperation" 650 (zr 111)), (ze P "IOBase" 682 (zr 131)), (ze P "BufferedIOBase" 700 (zr 146)), (ze P "TextIOBase" 718 (zr 158))] 25))
abbrev zo35v5 (P : Params) := (zn Value.none (Data.fields #[(zi 3), (zi 0), (zr 43), (zi 7), (zi 0), (zr 50), (zi 39), (zi 0), (zr 57), (zi 51), (zi 0), (zr 74), (zi 58), (zi 0), (zr 81), (zi 122), (zi 0), (zr 93), (zi 127), (zi 0), (zr 100), (zi 134), (zi 0), (zr 107), (zi 136), (zi 0), (zr 120), (zi 143), (zi 0), (zr 142), (zi 145), (zi 0), (zr 154)]))
abbrev zo146v5 (P : Params) := (Obj.mk (Value.type "type") none (Data.cls (ClassData.mk (zS "BufferedIOBase") [(zr 131)] [(zr 146), (zr 131), (Value.type "object")] 145 (zS "BufferedIOBase") Bool.true [] [] Bool.false none Bool.false)) #[(some (zr 137)), none, (some (zs "BufferedIOBase" 683)), (some (zs "BufferedIOBase" 691)), (some Value.none), (some (Value.bool Bool.true))])
abbrev zo158v5 (P : Params) := (Obj.mk (Value.type "type") none (Data.cls (ClassData.mk (zS "TextIOBase") [(zr 131)] [(zr 158), (zr 131), (Value.type "object")] 157 (zS "TextIOBase") Bool.true [] [] Bool.false none Bool.false)) #[(some (zr 149)), none, (some (zs "TextIOBase" 701)), (some (zs "TextIOBase" 709)), (some Value.none), (some (Value.bool Bool.true))])
abbrev zo3v6 (P : Params) := (zt "dict" (Data.dict #[(ze P "__name__" 165 (zs "io" 611)), (ze P "__doc__" 166 Value.none), (ze P "__package__" 167 Value.none), (ze P "__loader__" 168 (Value.builtin "__main__.__loader__#opaque")), (ze P "__spec__" 169 Value.none), (ze P "__annotations__" 170 (zr 6)), (ze P "__builtins__" 171 (zr 4)), (ze P "__file__" 173 (zs "/claim/cut.py" 172)), (ze P "__cached__" 174 Value.none), (ze P "_sre" 275 (zr 12)), (ze P "deque" 317 (Value.type "collections.deque")), (ze P "_wall" 330 (zr 44)), (ze P "sorted_list_difference" 346 (zr 51)), (ze P "unorderable_list_difference" 356 (zr 58)), (ze P "twin_re_1_fnmatch" 394 (zr 63)), (ze P "_special_chars_map" 542 (zr 65)), (ze P "escape" 549 (zr 75)), (ze P "_translate" 570 (zr 82)), (ze P "twin_re_1_shlex" 610 (zr 87)), (ze P "_whence" 620 (zr 94)), (ze P "_index" 628 (zr 101)), (ze P "UnsupportedOperation" 650 (zr 111)), (ze P "IOBase" 682 (zr 131)), (ze P "BufferedIOBase" 700 (zr 146)), (ze P "TextIOBase" 718 (zr 158)), (ze P "BytesIO" 980 (zr 388))] 26))
abbrev zo35v6 (P : Params) := (zn Value.none (Data.fields #[(zi 3), (zi 0), (zr 43), (zi 7), (zi 0), (zr 50), (zi 39), (zi 0), (zr 57), (zi 51), (zi 0), (zr 74), (zi 58), (zi 0), (zr 81), (zi 122), (zi 0), (zr 93), (zi 127), (zi 0), (zr 100), (zi 134), (zi 0), (zr 107), (zi 136), (zi 0), (zr 120), (zi 143), (zi 0), (zr 142), (zi 145), (zi 0), (zr 154), (zi 147), (zi 0), (zr 166)]))
abbrev zo3v7 (P : Params) := (zt "dict" (Data.dict #[(ze P "__name__" 165 (zs "io" 611)), (ze P "__doc__" 166 Value.none), (ze P "__package__" 167 Value.none), (ze P "__loader__" 168 (Value.builtin "__main__.__loader__#opaque")), (ze P "__spec__" 169 Value.none), (ze P "__annotations__" 170 (zr 6)), (ze P "__builtins__" 171 (zr 4)), (ze P "__file__" 173 (zs "/claim/cut.py" 172)), (ze P "__cached__" 174 Value.none), (ze P "_sre" 275 (zr 12)), (ze P "deque" 317 (Value.type "collections.deque")), (ze P "_wall" 330 (zr 44)), (ze P "sorted_list_difference" 346 (zr 51)), (ze P "unorderable_list_difference" 356 (zr 58)), (ze P "twin_re_1_fnmatch" 394 (zr 63)), (ze P "_special_chars_map" 542 (zr 65)), (ze P "escape" 549 (zr 75)), (ze P "_translate" 570 (zr 82)), (ze P "twin_re_1_shlex" 610 (zr 87)), (ze P "_whence" 620 (zr 94)), (ze P "_index" 628 (zr 101)), (ze P "UnsupportedOperation" 650 (zr 111)), (ze P "IOBase" 682 (zr 131)), (ze P "BufferedIOBase" 700 (zr 146)), (ze P "TextIOBase" 718 (zr 158)), (ze P "BytesIO" 980 (zr 388)), (ze P "StringIO" 1267 (zr 635))] 27))
abbrev zo35v7 (P : Params) := (zn Value.none (Data.fields #[(zi 3), (zi 0), (zr 43), (zi 7), (zi 0), (zr 50), (zi 39), (zi 0), (zr 57), (zi 51), (zi 0), (zr 74), (zi 58), (zi 0), (zr 81), (zi 122), (zi 0), (zr 93), (zi 127), (zi 0), (zr 100), (zi 134), (zi 0), (zr 107), (zi 136), (zi 0), (zr 120), (zi 143), (zi 0), (zr 142), (zi 145), (zi 0), (zr 154), (zi 147), (zi 0), (zr 166), (zi 317), (zi 0), (zr 396)]))
noncomputable abbrev hp0 (P : Params) : Heap := Heap.mk #[(zo0 P), (zo1 P), (zo2v0 P), (zo3v0 P), (zo4 P), (zo5 P), (zo6 P), (zo7 P), (zo8 P), (zo9 P), (zo10 P), (zo11 P), (zo12 P), (zo13 P), (zo14 P), (zo15 P), (zo16 P), (zo17 P), (zo18 P), (zo19 P), (zo20 P), (zo21 P), (zo22 P), (zo23 P), (zo24 P), (zo25 P), (zo26 P), (zo27 P), (zo28 P), (zo29 P), (zo30 P), (zo31 P), (zo32 P), (zo33 P)] (Life.mk [] [] [] 0 [] [] Bool.false #[] [] 0 Bool.false Bool.false Bool.false (0 : Int) [(2000 : Int), (10 : Int), (10 : Int)] Bool.false 0 Bool.true [] [] 0 Bool.false)
noncomputable abbrev hpA (P : Params) : Heap := Heap.mk #[(zo0 P), (zo1 P), (zo2v0 P), (zo3v0 P), (zo4 P), (zo5 P), (zo6 P), (zo7 P), (zo8 P), (zo9 P), (zo10 P), (zo11 P), (zo12 P), (zo13 P), (zo14 P), (zo15 P), (zo16 P), (zo17 P), (zo18 P), (zo19 P), (zo20 P), (zo21 P), (zo22 P), (zo23 P), (zo24 P), (zo25 P), (zo26 P), (zo27 P), (zo28 P), (zo29 P), (zo30 P), (zo31 P), (zo32 P), (zo33 P), (zo34 P), (zo35v1 P), (zo36 P), (zo37 P)] (Life.mk [] [] [] 0 [] [] Bool.false #[] [] 0 Bool.false Bool.false Bool.false (0 : Int) [(2000 : Int), (10 : Int), (10 : Int)] Bool.false 0 Bool.true [] [] 0 Bool.false)
noncomputable abbrev bt0 (P : Params) : BT := (zb (zo0 P) (zb (zo1 P) (zb (zo3v0 P) (zb (zo7 P) (zb (zo15 P) (zb (zo31 P) zz zz) zz) (zb (zo23 P) zz zz)) (zb (zo11 P) (zb (zo19 P) (zb (zo35v1 P) zz zz) zz) (zb (zo27 P) zz zz))) (zb (zo5 P) (zb (zo9 P) (zb (zo17 P) (zb (zo33 P) zz zz) zz) (zb (zo25 P) zz zz)) (zb (zo13 P) (zb (zo21 P) (zb (zo37 P) zz zz) zz) (zb (zo29 P) zz zz)))) (zb (zo2v0 P) (zb (zo4 P) (zb (zo8 P) (zb (zo16 P) (zb (zo32 P) zz zz) zz) (zb (zo24 P) zz zz)) (zb (zo12 P) (zb (zo20 P) (zb (zo36 P) zz zz) zz) (zb (zo28 P) zz zz))) (zb (zo6 P) (zb (zo10 P) (zb (zo18 P) (zb (zo34 P) zz zz) zz) (zb (zo26 P) zz zz)) (zb (zo14 P) (zb (zo22 P) zz zz) (zb (zo30 P) zz zz)))))
noncomputable abbrev bt1 (P : Params) : BT := (zb (zo0 P) (zb (zo1 P) (zb (zo3v3 P) (zb (zo7 P) (zb (zo15 P) (zb (zo31 P) (zb (zo63 P) zz zz) zz) (zb (zo47 P) zz zz)) (zb (zo23 P) (zb (zo39 P) zz zz) (zb (zo55 P) zz zz))) (zb (zo11 P) (zb (zo19 P) (zb (zo35v3 P) zz zz) (zb (zo51 P) zz zz)) (zb (zo27 P) (zb (zo43 P) zz zz) (zb (zo59 P) zz zz)))) (zb (zo5 P) (zb (zo9 P) (zb (zo17 P) (zb (zo33 P) zz zz) (zb (zo49 P) zz zz)) (zb (zo25 P) (zb (zo41 P) zz zz) (zb (zo57 P) zz zz))) (zb (zo13 P) (zb (zo21 P) (zb (zo37 P) zz zz) (zb (zo53 P) zz zz)) (zb (zo29 P) (zb (zo45 P) zz zz) (zb (zo61 P) zz zz))))) (zb (zo2v0 P) (zb (zo4 P) (zb (zo8 P) (zb (zo16 P) (zb (zo32 P) zz zz) (zb (zo48 P) zz zz)) (zb (zo24 P) (zb (zo40 P) zz zz) (zb (zo56 P) zz zz))) (zb (zo12 P) (zb (zo20 P) (zb (zo36 P) zz zz) (zb (zo52 P) zz zz)) (zb (zo28 P) (zb (zo44 P) zz zz) (zb (zo60 P) zz zz)))) (zb (zo6 P) (zb (zo10 P) (zb (zo18 P) (zb (zo34 P) zz zz) (zb (zo50 P) zz zz)) (zb (zo26 P) (zb (zo42 P) zz zz) (zb (zo58 P) zz zz))) (zb (zo14 P) (zb (zo22 P) (zb (zo38 P) zz zz) (zb (zo54 P) zz zz)) (zb (zo30 P) (zb (zo46 P) zz zz) (zb (zo62 P) zz zz))))))
noncomputable abbrev bt2 (P : Params) : BT := (zb (zo0 P) (zb (zo1 P) (zb (zo3v4 P) (zb (zo7 P) (zb (zo15 P) (zb (zo31 P) (zb (zo63 P) zz zz) zz) (zb (zo47 P) zz zz)) (zb (zo23 P) (zb (zo39 P) zz zz) (zb (zo55 P) zz zz))) (zb (zo11 P) (zb (zo19 P) (zb (zo35v3 P) (zb (zo67 P) zz zz) zz) (zb (zo51 P) zz zz)) (zb (zo27 P) (zb (zo43 P) zz zz) (zb (zo59 P) zz zz)))) (zb (zo5 P) (zb (zo9 P) (zb (zo17 P) (zb (zo33 P) (zb (zo65 P) zz zz) zz) (zb (zo49 P) zz zz)) (zb (zo25 P) (zb (zo41 P) zz zz) (zb (zo57 P) zz zz))) (zb (zo13 P) (zb (zo21 P) (zb (zo37 P) zz zz) (zb (zo53 P) zz zz)) (zb (zo29 P) (zb (zo45 P) zz zz) (zb (zo61 P) zz zz))))) (zb (zo2v0 P) (zb (zo4 P) (zb (zo8 P) (zb (zo16 P) (zb (zo32 P) (zb (zo64 P) zz zz) zz) (zb (zo48 P) zz zz)) (zb (zo24 P) (zb (zo40 P) zz zz) (zb (zo56 P) zz zz))) (zb (zo12 P) (zb (zo20 P) (zb (zo36 P) (zb (zo68 P) zz zz) zz) (zb (zo52 P) zz zz)) (zb (zo28 P) (zb (zo44 P) zz zz) (zb (zo60 P) zz zz)))) (zb (zo6 P) (zb (zo10 P) (zb (zo18 P) (zb (zo34 P) (zb (zo66 P) zz zz) zz) (zb (zo50 P) zz zz)) (zb (zo26 P) (zb (zo42 P) zz zz) (zb (zo58 P) zz zz))) (zb (zo14 P) (zb (zo22 P) (zb (zo38 P) zz zz) (zb (zo54 P) zz zz)) (zb (zo30 P) (zb (zo46 P) zz zz) (zb (zo62 P) zz zz))))))
noncomputable abbrev bt3 (P : Params) : BT := (zb (zo0 P) (zb (zo1 P) (zb (zo3v5 P) (zb (zo7 P) (zb (zo15 P) (zb (zo31 P) (zb (zo63 P) (zb (zo127 P) zz zz) zz) (zb (zo95 P) (zb (zo159 P) zz zz) zz)) (zb (zo47 P) (zb (zo79 P) (zb (zo143 P) zz zz) zz) (zb (zo111 P) zz zz))) (zb (zo23 P) (zb (zo39 P) (zb (zo71 P) (zb (zo135 P) zz zz) zz) (zb (zo103 P) zz zz)) (zb (zo55 P) (zb (zo87 P) (zb (zo151 P) zz zz) zz) (zb (zo119 P) zz zz)))) (zb (zo11 P) (zb (zo19 P) (zb (zo35v5 P) (zb (zo67 P) (zb (zo131 P) zz zz) zz) (zb (zo99 P) zz zz)) (zb (zo51 P) (zb (zo83 P) (zb (zo147 P) zz zz) zz) (zb (zo115 P) zz zz))) (zb (zo27 P) (zb (zo43 P) (zb (zo75 P) (zb (zo139 P) zz zz) zz) (zb (zo107 P) zz zz)) (zb (zo59 P) (zb (zo91 P) (zb (zo155 P) zz zz) zz) (zb (zo123 P) zz zz))))) (zb (zo5 P) (zb (zo9 P) (zb (zo17 P) (zb (zo33 P) (zb (zo65 P) (zb (zo129 P) zz zz) zz) (zb (zo97 P) zz zz)) (zb (zo49 P) (zb (zo81 P) (zb (zo145 P) zz zz) zz) (zb (zo113 P) zz zz))) (zb (zo25 P) (zb (zo41 P) (zb (zo73 P) (zb (zo137 P) zz zz) zz) (zb (zo105 P) zz zz)) (zb (zo57 P) (zb (zo89 P) (zb (zo153 P) zz zz) zz) (zb (zo121 P) zz zz)))) (zb (zo13 P) (zb (zo21 P) (zb (zo37 P) (zb (zo69 P) (zb (zo133 P) zz zz) zz) (zb (zo101 P) zz zz)) (zb (zo53 P) (zb (zo85 P) (zb (zo149 P) zz zz) zz) (zb (zo117 P) zz zz))) (zb (zo29 P) (zb (zo45 P) (zb (zo77 P) (zb (zo141 P) zz zz) zz) (zb (zo109 P) zz zz)) (zb (zo61 P) (zb (zo93 P) (zb (zo157 P) zz zz) zz) (zb (zo125 P) zz zz)))))) (zb (zo2 P) (zb (zo4 P) (zb (zo8 P) (zb (zo16 P) (zb (zo32 P) (zb (zo64 P) (zb (zo128 P) zz zz) zz) (zb (zo96 P) (zb (zo160 P) zz zz) zz)) (zb (zo48 P) (zb (zo80 P) (zb (zo144 P) zz zz) zz) (zb (zo112 P) zz zz))) (zb (zo24 P) (zb (zo40 P) (zb (zo72 P) (zb (zo136 P) zz zz) zz) (zb (zo104 P) zz zz)) (zb (zo56 P) (zb (zo88 P) (zb (zo152 P) zz zz) zz) (zb (zo120 P) zz zz)))) (zb (zo12 P) (zb (zo20 P) (zb (zo36 P) (zb (zo68 P) (zb (zo132 P) zz zz) zz) (zb (zo100 P) zz zz)) (zb (zo52 P) (zb (zo84 P) (zb (zo148 P) zz zz) zz) (zb (zo116 P) zz zz))) (zb (zo28 P) (zb (zo44 P) (zb (zo76 P) (zb (zo140 P) zz zz) zz) (zb (zo108 P) zz zz)) (zb (zo60 P) (zb (zo92 P) (zb (zo156 P) zz zz) zz) (zb (zo124 P) zz zz))))) (zb (zo6 P) (zb (zo10 P) (zb (zo18 P) (zb (zo34 P) (zb (zo66 P) (zb (zo130 P) zz zz) zz) (zb (zo98 P) zz zz)) (zb (zo50 P) (zb (zo82 P) (zb (zo146v5 P) zz zz) zz) (zb (zo114 P) zz zz))) (zb (zo26 P) (zb (zo42 P) (zb (zo74 P) (zb (zo138 P) zz zz) zz) (zb (zo106 P) zz zz)) (zb (zo58 P) (zb (zo90 P) (zb (zo154 P) zz zz) zz) (zb (zo122 P) zz zz)))) (zb (zo14 P) (zb (zo22 P) (zb (zo38 P) (zb (zo70 P) (zb (zo134 P) zz zz) zz) (zb (zo102 P) zz zz)) (zb (zo54 P) (zb (zo86 P) (zb (zo150 P) zz zz) zz) (zb (zo118 P) zz zz))) (zb (zo30 P) (zb (zo46 P) (zb (zo78 P) (zb (zo142 P) zz zz) zz) (zb (zo110 P) zz zz)) (zb (zo62 P) (zb (zo94 P) (zb (zo158v5 P) zz zz) zz) (zb (zo126 P) zz zz)))))))
noncomputable abbrev bt4 (P : Params) : BT := (zb (zo0 P) (zb (zo1 P) (zb (zo3v6 P) (zb (zo7 P) (zb (zo15 P) (zb (zo31 P) (zb (zo63 P) (zb (zo127 P) (zb (zo255 P) zz zz) (zb (zo383 P) zz zz)) (zb (zo191 P) (zb (zo319 P) zz zz) zz)) (zb (zo95 P) (zb (zo159 P) (zb (zo287 P) zz zz) zz) (zb (zo223 P) (zb (zo351 P) zz zz) zz))) (zb (zo47 P) (zb (zo79 P) (zb (zo143 P) (zb (zo271 P) zz zz) zz) (zb (zo207 P) (zb (zo335 P) zz zz) zz)) (zb (zo111 P) (zb (zo175 P) (zb (zo303 P) zz zz) zz) (zb (zo239 P) (zb (zo367 P) zz zz) zz)))) (zb (zo23 P) (zb (zo39 P) (zb (zo71 P) (zb (zo135 P) (zb (zo263 P) zz zz) zz) (zb (zo199 P) (zb (zo327 P) zz zz) zz)) (zb (zo103 P) (zb (zo167 P) (zb (zo295 P) zz zz) zz) (zb (zo231 P) (zb (zo359 P) zz zz) zz))) (zb (zo55 P) (zb (zo87 P) (zb (zo151 P) (zb (zo279 P) zz zz) zz) (zb (zo215 P) (zb (zo343 P) zz zz) zz)) (zb (zo119 P) (zb (zo183 P) (zb (zo311 P) zz zz) zz) (zb (zo247 P) (zb (zo375 P) zz zz) zz))))) (zb (zo11 P) (zb (zo19 P) (zb (zo35v6 P) (zb (zo67 P) (zb (zo131 P) (zb (zo259 P) zz zz) (zb (zo387 P) zz zz)) (zb (zo195 P) (zb (zo323 P) zz zz) zz)) (zb (zo99 P) (zb (zo163 P) (zb (zo291 P) zz zz) zz) (zb (zo227 P) (zb (zo355 P) zz zz) zz))) (zb (zo51 P) (zb (zo83 P) (zb (zo147 P) (zb (zo275 P) zz zz) zz) (zb (zo211 P) (zb (zo339 P) zz zz) zz)) (zb (zo115 P) (zb (zo179 P) (zb (zo307 P) zz zz) zz) (zb (zo243 P) (zb (zo371 P) zz zz) zz)))) (zb (zo27 P) (zb (zo43 P) (zb (zo75 P) (zb (zo139 P) (zb (zo267 P) zz zz) zz) (zb (zo203 P) (zb (zo331 P) zz zz) zz)) (zb (zo107 P) (zb (zo171 P) (zb (zo299 P) zz zz) zz) (zb (zo235 P) (zb (zo363 P) zz zz) zz))) (zb (zo59 P) (zb (zo91 P) (zb (zo155 P) (zb (zo283 P) zz zz) zz) (zb (zo219 P) (zb (zo347 P) zz zz) zz)) (zb (zo123 P) (zb (zo187 P) (zb (zo315 P) zz zz) zz) (zb (zo251 P) (zb (zo379 P) zz zz) zz)))))) (zb (zo5 P) (zb (zo9 P) (zb (zo17 P) (zb (zo33 P) (zb (zo65 P) (zb (zo129 P) (zb (zo257 P) zz zz) (zb (zo385 P) zz zz)) (zb (zo193 P) (zb (zo321 P) zz zz) zz)) (zb (zo97 P) (zb (zo161 P) (zb (zo289 P) zz zz) zz) (zb (zo225 P) (zb (zo353 P) zz zz) zz))) (zb (zo49 P) (zb (zo81 P) (zb (zo145 P) (zb (zo273 P) zz zz) zz) (zb (zo209 P) (zb (zo337 P) zz zz) zz)) (zb (zo113 P) (zb (zo177 P) (zb (zo305 P) zz zz) zz) (zb (zo241 P) (zb (zo369 P) zz zz) zz)))) (zb (zo25 P) (zb (zo41 P) (zb (zo73 P) (zb (zo137 P) (zb (zo265 P) zz zz) zz) (zb (zo201 P) (zb (zo329 P) zz zz) zz)) (zb (zo105 P) (zb (zo169 P) (zb (zo297 P) zz zz) zz) (zb (zo233 P) (zb (zo361 P) zz zz) zz))) (zb (zo57 P) (zb (zo89 P) (zb (zo153 P) (zb (zo281 P) zz zz) zz) (zb (zo217 P) (zb (zo345 P) zz zz) zz)) (zb (zo121 P) (zb (zo185 P) (zb (zo313 P) zz zz) zz) (zb (zo249 P) (zb (zo377 P) zz zz) zz))))) (zb (zo13 P) (zb (zo21 P) (zb (zo37 P) (zb (zo69 P) (zb (zo133 P) (zb (zo261 P) zz zz) (zb (zo389 P) zz zz)) (zb (zo197 P) (zb (zo325 P) zz zz) zz)) (zb (zo101 P) (zb (zo165 P) (zb (zo293 P) zz zz) zz) (zb (zo229 P) (zb (zo357 P) zz zz) zz))) (zb (zo53 P) (zb (zo85 P) (zb (zo149 P) (zb (zo277 P) zz zz) zz) (zb (zo213 P) (zb (zo341 P) zz zz) zz)) (zb (zo117 P) (zb (zo181 P) (zb (zo309 P) zz zz) zz) (zb (zo245 P) (zb (zo373 P) zz zz) zz)))) (zb (zo29 P) (zb (zo45 P) (zb (zo77 P) (zb (zo141 P) (zb (zo269 P) zz zz) zz) (zb (zo205 P) (zb (zo333 P) zz zz) zz)) (zb (zo109 P) (zb (zo173 P) (zb (zo301 P) zz zz) zz) (zb (zo237 P) (zb (zo365 P) zz zz) zz))) (zb (zo61 P) (zb (zo93 P) (zb (zo157 P) (zb (zo285 P) zz zz) zz) (zb (zo221 P) (zb (zo349 P) zz zz) zz)) (zb (zo125 P) (zb (zo189 P) (zb (zo317 P) zz zz) zz) (zb (zo253 P) (zb (zo381 P) zz zz) zz))))))) (zb (zo2 P) (zb (zo4 P) (zb (zo8 P) (zb (zo16 P) (zb (zo32 P) (zb (zo64 P) (zb (zo128 P) (zb (zo256 P) zz zz) (zb (zo384 P) zz zz)) (zb (zo192 P) (zb (zo320 P) zz zz) zz)) (zb (zo96 P) (zb (zo160 P) (zb (zo288 P) zz zz) zz) (zb (zo224 P) (zb (zo352 P) zz zz) zz))) (zb (zo48 P) (zb (zo80 P) (zb (zo144 P) (zb (zo272 P) zz zz) zz) (zb (zo208 P) (zb (zo336 P) zz zz) zz)) (zb (zo112 P) (zb (zo176 P) (zb (zo304 P) zz zz) zz) (zb (zo240 P) (zb (zo368 P) zz zz) zz)))) (zb (zo24 P) (zb (zo40 P) (zb (zo72 P) (zb (zo136 P) (zb (zo264 P) zz zz) zz) (zb (zo200 P) (zb (zo328 P) zz zz) zz)) (zb (zo104 P) (zb (zo168 P) (zb (zo296 P) zz zz) zz) (zb (zo232 P) (zb (zo360 P) zz zz) zz))) (zb (zo56 P) (zb (zo88 P) (zb (zo152 P) (zb (zo280 P) zz zz) zz) (zb (zo216 P) (zb (zo344 P) zz zz) zz)) (zb (zo120 P) (zb (zo184 P) (zb (zo312 P) zz zz) zz) (zb (zo248 P) (zb (zo376 P) zz zz) zz))))) (zb (zo12 P) (zb (zo20 P) (zb (zo36 P) (zb (zo68 P) (zb (zo132 P) (zb (zo260 P) zz zz) (zb (zo388 P) zz zz)) (zb (zo196 P) (zb (zo324 P) zz zz) zz)) (zb (zo100 P) (zb (zo164 P) (zb (zo292 P) zz zz) zz) (zb (zo228 P) (zb (zo356 P) zz zz) zz))) (zb (zo52 P) (zb (zo84 P) (zb (zo148 P) (zb (zo276 P) zz zz) zz) (zb (zo212 P) (zb (zo340 P) zz zz) zz)) (zb (zo116 P) (zb (zo180 P) (zb (zo308 P) zz zz) zz) (zb (zo244 P) (zb (zo372 P) zz zz) zz)))) (zb (zo28 P) (zb (zo44 P) (zb (zo76 P) (zb (zo140 P) (zb (zo268 P) zz zz) zz) (zb (zo204 P) (zb (zo332 P) zz zz) zz)) (zb (zo108 P) (zb (zo172 P) (zb (zo300 P) zz zz) zz) (zb (zo236 P) (zb (zo364 P) zz zz) zz))) (zb (zo60 P) (zb (zo92 P) (zb (zo156 P) (zb (zo284 P) zz zz) zz) (zb (zo220 P) (zb (zo348 P) zz zz) zz)) (zb (zo124 P) (zb (zo188 P) (zb (zo316 P) zz zz) zz) (zb (zo252 P) (zb (zo380 P) zz zz) zz)))))) (zb (zo6 P) (zb (zo10 P) (zb (zo18 P) (zb (zo34 P) (zb (zo66 P) (zb (zo130 P) (zb (zo258 P) zz zz) (zb (zo386 P) zz zz)) (zb (zo194 P) (zb (zo322 P) zz zz) zz)) (zb (zo98 P) (zb (zo162 P) (zb (zo290 P) zz zz) zz) (zb (zo226 P) (zb (zo354 P) zz zz) zz))) (zb (zo50 P) (zb (zo82 P) (zb (zo146 P) (zb (zo274 P) zz zz) zz) (zb (zo210 P) (zb (zo338 P) zz zz) zz)) (zb (zo114 P) (zb (zo178 P) (zb (zo306 P) zz zz) zz) (zb (zo242 P) (zb (zo370 P) zz zz) zz)))) (zb (zo26 P) (zb (zo42 P) (zb (zo74 P) (zb (zo138 P) (zb (zo266 P) zz zz) zz) (zb (zo202 P) (zb (zo330 P) zz zz) zz)) (zb (zo106 P) (zb (zo170 P) (zb (zo298 P) zz zz) zz) (zb (zo234 P) (zb (zo362 P) zz zz) zz))) (zb (zo58 P) (zb (zo90 P) (zb (zo154 P) (zb (zo282 P) zz zz) zz) (zb (zo218 P) (zb (zo346 P) zz zz) zz)) (zb (zo122 P) (zb (zo186 P) (zb (zo314 P) zz zz) zz) (zb (zo250 P) (zb (zo378 P) zz zz) zz))))) (zb (zo14 P) (zb (zo22 P) (zb (zo38 P) (zb (zo70 P) (zb (zo134 P) (zb (zo262 P) zz zz) (zb (zo390 P) zz zz)) (zb (zo198 P) (zb (zo326 P) zz zz) zz)) (zb (zo102 P) (zb (zo166 P) (zb (zo294 P) zz zz) zz) (zb (zo230 P) (zb (zo358 P) zz zz) zz))) (zb (zo54 P) (zb (zo86 P) (zb (zo150 P) (zb (zo278 P) zz zz) zz) (zb (zo214 P) (zb (zo342 P) zz zz) zz)) (zb (zo118 P) (zb (zo182 P) (zb (zo310 P) zz zz) zz) (zb (zo246 P) (zb (zo374 P) zz zz) zz)))) (zb (zo30 P) (zb (zo46 P) (zb (zo78 P) (zb (zo142 P) (zb (zo270 P) zz zz) zz) (zb (zo206 P) (zb (zo334 P) zz zz) zz)) (zb (zo110 P) (zb (zo174 P) (zb (zo302 P) zz zz) zz) (zb (zo238 P) (zb (zo366 P) zz zz) zz))) (zb (zo62 P) (zb (zo94 P) (zb (zo158v5 P) (zb (zo286 P) zz zz) zz) (zb (zo222 P) (zb (zo350 P) zz zz) zz)) (zb (zo126 P) (zb (zo190 P) (zb (zo318 P) zz zz) zz) (zb (zo254 P) (zb (zo382 P) zz zz) zz))))))))
noncomputable abbrev bt5 (P : Params) : BT := (zb (zo0 P) (zb (zo1 P) (zb (zo3v7 P) (zb (zo7 P) (zb (zo15 P) (zb (zo31 P) (zb (zo63 P) (zb (zo127 P) (zb (zo255 P) (zb (zo511 P) zz zz) zz) (zb (zo383 P) zz zz)) (zb (zo191 P) (zb (zo319 P) (zb (zo575 P) zz zz) zz) (zb (zo447 P) zz zz))) (zb (zo95 P) (zb (zo159 P) (zb (zo287 P) (zb (zo543 P) zz zz) zz) (zb (zo415 P) zz zz)) (zb (zo223 P) (zb (zo351 P) (zb (zo607 P) zz zz) zz) (zb (zo479 P) zz zz)))) (zb (zo47 P) (zb (zo79 P) (zb (zo143 P) (zb (zo271 P) (zb (zo527 P) zz zz) zz) (zb (zo399 P) zz zz)) (zb (zo207 P) (zb (zo335 P) (zb (zo591 P) zz zz) zz) (zb (zo463 P) zz zz))) (zb (zo111 P) (zb (zo175 P) (zb (zo303 P) (zb (zo559 P) zz zz) zz) (zb (zo431 P) zz zz)) (zb (zo239 P) (zb (zo367 P) (zb (zo623 P) zz zz) zz) (zb (zo495 P) zz zz))))) (zb (zo23 P) (zb (zo39 P) (zb (zo71 P) (zb (zo135 P) (zb (zo263 P) (zb (zo519 P) zz zz) zz) (zb (zo391 P) zz zz)) (zb (zo199 P) (zb (zo327 P) (zb (zo583 P) zz zz) zz) (zb (zo455 P) zz zz))) (zb (zo103 P) (zb (zo167 P) (zb (zo295 P) (zb (zo551 P) zz zz) zz) (zb (zo423 P) zz zz)) (zb (zo231 P) (zb (zo359 P) (zb (zo615 P) zz zz) zz) (zb (zo487 P) zz zz)))) (zb (zo55 P) (zb (zo87 P) (zb (zo151 P) (zb (zo279 P) (zb (zo535 P) zz zz) zz) (zb (zo407 P) zz zz)) (zb (zo215 P) (zb (zo343 P) (zb (zo599 P) zz zz) zz) (zb (zo471 P) zz zz))) (zb (zo119 P) (zb (zo183 P) (zb (zo311 P) (zb (zo567 P) zz zz) zz) (zb (zo439 P) zz zz)) (zb (zo247 P) (zb (zo375 P) (zb (zo631 P) zz zz) zz) (zb (zo503 P) zz zz)))))) (zb (zo11 P) (zb (zo19 P) (zb (zo35v7 P) (zb (zo67 P) (zb (zo131 P) (zb (zo259 P) (zb (zo515 P) zz zz) zz) (zb (zo387 P) zz zz)) (zb (zo195 P) (zb (zo323 P) (zb (zo579 P) zz zz) zz) (zb (zo451 P) zz zz))) (zb (zo99 P) (zb (zo163 P) (zb (zo291 P) (zb (zo547 P) zz zz) zz) (zb (zo419 P) zz zz)) (zb (zo227 P) (zb (zo355 P) (zb (zo611 P) zz zz) zz) (zb (zo483 P) zz zz)))) (zb (zo51 P) (zb (zo83 P) (zb (zo147 P) (zb (zo275 P) (zb (zo531 P) zz zz) zz) (zb (zo403 P) zz zz)) (zb (zo211 P) (zb (zo339 P) (zb (zo595 P) zz zz) zz) (zb (zo467 P) zz zz))) (zb (zo115 P) (zb (zo179 P) (zb (zo307 P) (zb (zo563 P) zz zz) zz) (zb (zo435 P) zz zz)) (zb (zo243 P) (zb (zo371 P) (zb (zo627 P) zz zz) zz) (zb (zo499 P) zz zz))))) (zb (zo27 P) (zb (zo43 P) (zb (zo75 P) (zb (zo139 P) (zb (zo267 P) (zb (zo523 P) zz zz) zz) (zb (zo395 P) zz zz)) (zb (zo203 P) (zb (zo331 P) (zb (zo587 P) zz zz) zz) (zb (zo459 P) zz zz))) (zb (zo107 P) (zb (zo171 P) (zb (zo299 P) (zb (zo555 P) zz zz) zz) (zb (zo427 P) zz zz)) (zb (zo235 P) (zb (zo363 P) (zb (zo619 P) zz zz) zz) (zb (zo491 P) zz zz)))) (zb (zo59 P) (zb (zo91 P) (zb (zo155 P) (zb (zo283 P) (zb (zo539 P) zz zz) zz) (zb (zo411 P) zz zz)) (zb (zo219 P) (zb (zo347 P) (zb (zo603 P) zz zz) zz) (zb (zo475 P) zz zz))) (zb (zo123 P) (zb (zo187 P) (zb (zo315 P) (zb (zo571 P) zz zz) zz) (zb (zo443 P) zz zz)) (zb (zo251 P) (zb (zo379 P) (zb (zo635 P) zz zz) zz) (zb (zo507 P) zz zz))))))) (zb (zo5 P) (zb (zo9 P) (zb (zo17 P) (zb (zo33 P) (zb (zo65 P) (zb (zo129 P) (zb (zo257 P) (zb (zo513 P) zz zz) zz) (zb (zo385 P) zz zz)) (zb (zo193 P) (zb (zo321 P) (zb (zo577 P) zz zz) zz) (zb (zo449 P) zz zz))) (zb (zo97 P) (zb (zo161 P) (zb (zo289 P) (zb (zo545 P) zz zz) zz) (zb (zo417 P) zz zz)) (zb (zo225 P) (zb (zo353 P) (zb (zo609 P) zz zz) zz) (zb (zo481 P) zz zz)))) (zb (zo49 P) (zb (zo81 P) (zb (zo145 P) (zb (zo273 P) (zb (zo529 P) zz zz) zz) (zb (zo401 P) zz zz)) (zb (zo209 P) (zb (zo337 P) (zb (zo593 P) zz zz) zz) (zb (zo465 P) zz zz))) (zb (zo113 P) (zb (zo177 P) (zb (zo305 P) (zb (zo561 P) zz zz) zz) (zb (zo433 P) zz zz)) (zb (zo241 P) (zb (zo369 P) (zb (zo625 P) zz zz) zz) (zb (zo497 P) zz zz))))) (zb (zo25 P) (zb (zo41 P) (zb (zo73 P) (zb (zo137 P) (zb (zo265 P) (zb (zo521 P) zz zz) zz) (zb (zo393 P) zz zz)) (zb (zo201 P) (zb (zo329 P) (zb (zo585 P) zz zz) zz) (zb (zo457 P) zz zz))) (zb (zo105 P) (zb (zo169 P) (zb (zo297 P) (zb (zo553 P) zz zz) zz) (zb (zo425 P) zz zz)) (zb (zo233 P) (zb (zo361 P) (zb (zo617 P) zz zz) zz) (zb (zo489 P) zz zz)))) (zb (zo57 P) (zb (zo89 P) (zb (zo153 P) (zb (zo281 P) (zb (zo537 P) zz zz) zz) (zb (zo409 P) zz zz)) (zb (zo217 P) (zb (zo345 P) (zb (zo601 P) zz zz) zz) (zb (zo473 P) zz zz))) (zb (zo121 P) (zb (zo185 P) (zb (zo313 P) (zb (zo569 P) zz zz) zz) (zb (zo441 P) zz zz)) (zb (zo249 P) (zb (zo377 P) (zb (zo633 P) zz zz) zz) (zb (zo505 P) zz zz)))))) (zb (zo13 P) (zb (zo21 P) (zb (zo37 P) (zb (zo69 P) (zb (zo133 P) (zb (zo261 P) (zb (zo517 P) zz zz) zz) (zb (zo389 P) zz zz)) (zb (zo197 P) (zb (zo325 P) (zb (zo581 P) zz zz) zz) (zb (zo453 P) zz zz))) (zb (zo101 P) (zb (zo165 P) (zb (zo293 P) (zb (zo549 P) zz zz) zz) (zb (zo421 P) zz zz)) (zb (zo229 P) (zb (zo357 P) (zb (zo613 P) zz zz) zz) (zb (zo485 P) zz zz)))) (zb (zo53 P) (zb (zo85 P) (zb (zo149 P) (zb (zo277 P) (zb (zo533 P) zz zz) zz) (zb (zo405 P) zz zz)) (zb (zo213 P) (zb (zo341 P) (zb (zo597 P) zz zz) zz) (zb (zo469 P) zz zz))) (zb (zo117 P) (zb (zo181 P) (zb (zo309 P) (zb (zo565 P) zz zz) zz) (zb (zo437 P) zz zz)) (zb (zo245 P) (zb (zo373 P) (zb (zo629 P) zz zz) zz) (zb (zo501 P) zz zz))))) (zb (zo29 P) (zb (zo45 P) (zb (zo77 P) (zb (zo141 P) (zb (zo269 P) (zb (zo525 P) zz zz) zz) (zb (zo397 P) zz zz)) (zb (zo205 P) (zb (zo333 P) (zb (zo589 P) zz zz) zz) (zb (zo461 P) zz zz))) (zb (zo109 P) (zb (zo173 P) (zb (zo301 P) (zb (zo557 P) zz zz) zz) (zb (zo429 P) zz zz)) (zb (zo237 P) (zb (zo365 P) (zb (zo621 P) zz zz) zz) (zb (zo493 P) zz zz)))) (zb (zo61 P) (zb (zo93 P) (zb (zo157 P) (zb (zo285 P) (zb (zo541 P) zz zz) zz) (zb (zo413 P) zz zz)) (zb (zo221 P) (zb (zo349 P) (zb (zo605 P) zz zz) zz) (zb (zo477 P) zz zz))) (zb (zo125 P) (zb (zo189 P) (zb (zo317 P) (zb (zo573 P) zz zz) zz) (zb (zo445 P) zz zz)) (zb (zo253 P) (zb (zo381 P) (zb (zo637 P) zz zz) zz) (zb (zo509 P) zz zz)))))))) (zb (zo2 P) (zb (zo4 P) (zb (zo8 P) (zb (zo16 P) (zb (zo32 P) (zb (zo64 P) (zb (zo128 P) (zb (zo256 P) (zb (zo512 P) zz zz) zz) (zb (zo384 P) zz zz)) (zb (zo192 P) (zb (zo320 P) (zb (zo576 P) zz zz) zz) (zb (zo448 P) zz zz))) (zb (zo96 P) (zb (zo160 P) (zb (zo288 P) (zb (zo544 P) zz zz) zz) (zb (zo416 P) zz zz)) (zb (zo224 P) (zb (zo352 P) (zb (zo608 P) zz zz) zz) (zb (zo480 P) zz zz)))) (zb (zo48 P) (zb (zo80 P) (zb (zo144 P) (zb (zo272 P) (zb (zo528 P) zz zz) zz) (zb (zo400 P) zz zz)) (zb (zo208 P) (zb (zo336 P) (zb (zo592 P) zz zz) zz) (zb (zo464 P) zz zz))) (zb (zo112 P) (zb (zo176 P) (zb (zo304 P) (zb (zo560 P) zz zz) zz) (zb (zo432 P) zz zz)) (zb (zo240 P) (zb (zo368 P) (zb (zo624 P) zz zz) zz) (zb (zo496 P) zz zz))))) (zb (zo24 P) (zb (zo40 P) (zb (zo72 P) (zb (zo136 P) (zb (zo264 P) (zb (zo520 P) zz zz) zz) (zb (zo392 P) zz zz)) (zb (zo200 P) (zb (zo328 P) (zb (zo584 P) zz zz) zz) (zb (zo456 P) zz zz))) (zb (zo104 P) (zb (zo168 P) (zb (zo296 P) (zb (zo552 P) zz zz) zz) (zb (zo424 P) zz zz)) (zb (zo232 P) (zb (zo360 P) (zb (zo616 P) zz zz) zz) (zb (zo488 P) zz zz)))) (zb (zo56 P) (zb (zo88 P) (zb (zo152 P) (zb (zo280 P) (zb (zo536 P) zz zz) zz) (zb (zo408 P) zz zz)) (zb (zo216 P) (zb (zo344 P) (zb (zo600 P) zz zz) zz) (zb (zo472 P) zz zz))) (zb (zo120 P) (zb (zo184 P) (zb (zo312 P) (zb (zo568 P) zz zz) zz) (zb (zo440 P) zz zz)) (zb (zo248 P) (zb (zo376 P) (zb (zo632 P) zz zz) zz) (zb (zo504 P) zz zz)))))) (zb (zo12 P) (zb (zo20 P) (zb (zo36 P) (zb (zo68 P) (zb (zo132 P) (zb (zo260 P) (zb (zo516 P) zz zz) zz) (zb (zo388 P) zz zz)) (zb (zo196 P) (zb (zo324 P) (zb (zo580 P) zz zz) zz) (zb (zo452 P) zz zz))) (zb (zo100 P) (zb (zo164 P) (zb (zo292 P) (zb (zo548 P) zz zz) zz) (zb (zo420 P) zz zz)) (zb (zo228 P) (zb (zo356 P) (zb (zo612 P) zz zz) zz) (zb (zo484 P) zz zz)))) (zb (zo52 P) (zb (zo84 P) (zb (zo148 P) (zb (zo276 P) (zb (zo532 P) zz zz) zz) (zb (zo404 P) zz zz)) (zb (zo212 P) (zb (zo340 P) (zb (zo596 P) zz zz) zz) (zb (zo468 P) zz zz))) (zb (zo116 P) (zb (zo180 P) (zb (zo308 P) (zb (zo564 P) zz zz) zz) (zb (zo436 P) zz zz)) (zb (zo244 P) (zb (zo372 P) (zb (zo628 P) zz zz) zz) (zb (zo500 P) zz zz))))) (zb (zo28 P) (zb (zo44 P) (zb (zo76 P) (zb (zo140 P) (zb (zo268 P) (zb (zo524 P) zz zz) zz) (zb (zo396 P) zz zz)) (zb (zo204 P) (zb (zo332 P) (zb (zo588 P) zz zz) zz) (zb (zo460 P) zz zz))) (zb (zo108 P) (zb (zo172 P) (zb (zo300 P) (zb (zo556 P) zz zz) zz) (zb (zo428 P) zz zz)) (zb (zo236 P) (zb (zo364 P) (zb (zo620 P) zz zz) zz) (zb (zo492 P) zz zz)))) (zb (zo60 P) (zb (zo92 P) (zb (zo156 P) (zb (zo284 P) (zb (zo540 P) zz zz) zz) (zb (zo412 P) zz zz)) (zb (zo220 P) (zb (zo348 P) (zb (zo604 P) zz zz) zz) (zb (zo476 P) zz zz))) (zb (zo124 P) (zb (zo188 P) (zb (zo316 P) (zb (zo572 P) zz zz) zz) (zb (zo444 P) zz zz)) (zb (zo252 P) (zb (zo380 P) (zb (zo636 P) zz zz) zz) (zb (zo508 P) zz zz))))))) (zb (zo6 P) (zb (zo10 P) (zb (zo18 P) (zb (zo34 P) (zb (zo66 P) (zb (zo130 P) (zb (zo258 P) (zb (zo514 P) zz zz) zz) (zb (zo386 P) zz zz)) (zb (zo194 P) (zb (zo322 P) (zb (zo578 P) zz zz) zz) (zb (zo450 P) zz zz))) (zb (zo98 P) (zb (zo162 P) (zb (zo290 P) (zb (zo546 P) zz zz) zz) (zb (zo418 P) zz zz)) (zb (zo226 P) (zb (zo354 P) (zb (zo610 P) zz zz) zz) (zb (zo482 P) zz zz)))) (zb (zo50 P) (zb (zo82 P) (zb (zo146 P) (zb (zo274 P) (zb (zo530 P) zz zz) zz) (zb (zo402 P) zz zz)) (zb (zo210 P) (zb (zo338 P) (zb (zo594 P) zz zz) zz) (zb (zo466 P) zz zz))) (zb (zo114 P) (zb (zo178 P) (zb (zo306 P) (zb (zo562 P) zz zz) zz) (zb (zo434 P) zz zz)) (zb (zo242 P) (zb (zo370 P) (zb (zo626 P) zz zz) zz) (zb (zo498 P) zz zz))))) (zb (zo26 P) (zb (zo42 P) (zb (zo74 P) (zb (zo138 P) (zb (zo266 P) (zb (zo522 P) zz zz) zz) (zb (zo394 P) zz zz)) (zb (zo202 P) (zb (zo330 P) (zb (zo586 P) zz zz) zz) (zb (zo458 P) zz zz))) (zb (zo106 P) (zb (zo170 P) (zb (zo298 P) (zb (zo554 P) zz zz) zz) (zb (zo426 P) zz zz)) (zb (zo234 P) (zb (zo362 P) (zb (zo618 P) zz zz) zz) (zb (zo490 P) zz zz)))) (zb (zo58 P) (zb (zo90 P) (zb (zo154 P) (zb (zo282 P) (zb (zo538 P) zz zz) zz) (zb (zo410 P) zz zz)) (zb (zo218 P) (zb (zo346 P) (zb (zo602 P) zz zz) zz) (zb (zo474 P) zz zz))) (zb (zo122 P) (zb (zo186 P) (zb (zo314 P) (zb (zo570 P) zz zz) zz) (zb (zo442 P) zz zz)) (zb (zo250 P) (zb (zo378 P) (zb (zo634 P) zz zz) zz) (zb (zo506 P) zz zz)))))) (zb (zo14 P) (zb (zo22 P) (zb (zo38 P) (zb (zo70 P) (zb (zo134 P) (zb (zo262 P) (zb (zo518 P) zz zz) zz) (zb (zo390 P) zz zz)) (zb (zo198 P) (zb (zo326 P) (zb (zo582 P) zz zz) zz) (zb (zo454 P) zz zz))) (zb (zo102 P) (zb (zo166 P) (zb (zo294 P) (zb (zo550 P) zz zz) zz) (zb (zo422 P) zz zz)) (zb (zo230 P) (zb (zo358 P) (zb (zo614 P) zz zz) zz) (zb (zo486 P) zz zz)))) (zb (zo54 P) (zb (zo86 P) (zb (zo150 P) (zb (zo278 P) (zb (zo534 P) zz zz) zz) (zb (zo406 P) zz zz)) (zb (zo214 P) (zb (zo342 P) (zb (zo598 P) zz zz) zz) (zb (zo470 P) zz zz))) (zb (zo118 P) (zb (zo182 P) (zb (zo310 P) (zb (zo566 P) zz zz) zz) (zb (zo438 P) zz zz)) (zb (zo246 P) (zb (zo374 P) (zb (zo630 P) zz zz) zz) (zb (zo502 P) zz zz))))) (zb (zo30 P) (zb (zo46 P) (zb (zo78 P) (zb (zo142 P) (zb (zo270 P) (zb (zo526 P) zz zz) zz) (zb (zo398 P) zz zz)) (zb (zo206 P) (zb (zo334 P) (zb (zo590 P) zz zz) zz) (zb (zo462 P) zz zz))) (zb (zo110 P) (zb (zo174 P) (zb (zo302 P) (zb (zo558 P) zz zz) zz) (zb (zo430 P) zz zz)) (zb (zo238 P) (zb (zo366 P) (zb (zo622 P) zz zz) zz) (zb (zo494 P) zz zz)))) (zb (zo62 P) (zb (zo94 P) (zb (zo158 P) (zb (zo286 P) (zb (zo542 P) zz zz) zz) (zb (zo414 P) zz zz)) (zb (zo222 P) (zb (zo350 P) (zb (zo606 P) zz zz) zz) (zb (zo478 P) zz zz))) (zb (zo126 P) (zb (zo190 P) (zb (zo318 P) (zb (zo574 P) zz zz) zz) (zb (zo446 P) zz zz)) (zb (zo254 P) (zb (zo382 P) zz zz) (zb (zo510 P) zz zz)))))))))
noncomputable abbrev bt6 (P : Params) : BT := (zb (zo0 P) (zb (zo1 P) (zb (zo3 P) (zb (zo7 P) (zb (zo15 P) (zb (zo31 P) (zb (zo63 P) (zb (zo127 P) (zb (zo255 P) (zb (zo511 P) zz zz) (zb (zo767 P) zz zz)) (zb (zo383 P) (zb (zo639 P) zz zz) zz)) (zb (zo191 P) (zb (zo319 P) (zb (zo575 P) zz zz) (zb (zo831 P) zz zz)) (zb (zo447 P) (zb (zo703 P) zz zz) zz))) (zb (zo95 P) (zb (zo159 P) (zb (zo287 P) (zb (zo543 P) zz zz) (zb (zo799 P) zz zz)) (zb (zo415 P) (zb (zo671 P) zz zz) zz)) (zb (zo223 P) (zb (zo351 P) (zb (zo607 P) zz zz) zz) (zb (zo479 P) (zb (zo735 P) zz zz) zz)))) (zb (zo47 P) (zb (zo79 P) (zb (zo143 P) (zb (zo271 P) (zb (zo527 P) zz zz) (zb (zo783 P) zz zz)) (zb (zo399 P) (zb (zo655 P) zz zz) zz)) (zb (zo207 P) (zb (zo335 P) (zb (zo591 P) zz zz) zz) (zb (zo463 P) (zb (zo719 P) zz zz) zz))) (zb (zo111 P) (zb (zo175 P) (zb (zo303 P) (zb (zo559 P) zz zz) (zb (zo815 P) zz zz)) (zb (zo431 P) (zb (zo687 P) zz zz) zz)) (zb (zo239 P) (zb (zo367 P) (zb (zo623 P) zz zz) zz) (zb (zo495 P) (zb (zo751 P) zz zz) zz))))) (zb (zo23 P) (zb (zo39 P) (zb (zo71 P) (zb (zo135 P) (zb (zo263 P) (zb (zo519 P) zz zz) (zb (zo775 P) zz zz)) (zb (zo391 P) (zb (zo647 P) zz zz) zz)) (zb (zo199 P) (zb (zo327 P) (zb (zo583 P) zz zz) zz) (zb (zo455 P) (zb (zo711 P) zz zz) zz))) (zb (zo103 P) (zb (zo167 P) (zb (zo295 P) (zb (zo551 P) zz zz) (zb (zo807 P) zz zz)) (zb (zo423 P) (zb (zo679 P) zz zz) zz)) (zb (zo231 P) (zb (zo359 P) (zb (zo615 P) zz zz) zz) (zb (zo487 P) (zb (zo743 P) zz zz) zz)))) (zb (zo55 P) (zb (zo87 P) (zb (zo151 P) (zb (zo279 P) (zb (zo535 P) zz zz) (zb (zo791 P) zz zz)) (zb (zo407 P) (zb (zo663 P) zz zz) zz)) (zb (zo215 P) (zb (zo343 P) (zb (zo599 P) zz zz) zz) (zb (zo471 P) (zb (zo727 P) zz zz) zz))) (zb (zo119 P) (zb (zo183 P) (zb (zo311 P) (zb (zo567 P) zz zz) (zb (zo823 P) zz zz)) (zb (zo439 P) (zb (zo695 P) zz zz) zz)) (zb (zo247 P) (zb (zo375 P) (zb (zo631 P) zz zz) zz) (zb (zo503 P) (zb (zo759 P) zz zz) zz)))))) (zb (zo11 P) (zb (zo19 P) (zb (zo35 P) (zb (zo67 P) (zb (zo131 P) (zb (zo259 P) (zb (zo515 P) zz zz) (zb (zo771 P) zz zz)) (zb (zo387 P) (zb (zo643 P) zz zz) zz)) (zb (zo195 P) (zb (zo323 P) (zb (zo579 P) zz zz) (zb (zo835 P) zz zz)) (zb (zo451 P) (zb (zo707 P) zz zz) zz))) (zb (zo99 P) (zb (zo163 P) (zb (zo291 P) (zb (zo547 P) zz zz) (zb (zo803 P) zz zz)) (zb (zo419 P) (zb (zo675 P) zz zz) zz)) (zb (zo227 P) (zb (zo355 P) (zb (zo611 P) zz zz) zz) (zb (zo483 P) (zb (zo739 P) zz zz) zz)))) (zb (zo51 P) (zb (zo83 P) (zb (zo147 P) (zb (zo275 P) (zb (zo531 P) zz zz) (zb (zo787 P) zz zz)) (zb (zo403 P) (zb (zo659 P) zz zz) zz)) (zb (zo211 P) (zb (zo339 P) (zb (zo595 P) zz zz) zz) (zb (zo467 P) (zb (zo723 P) zz zz) zz))) (zb (zo115 P) (zb (zo179 P) (zb (zo307 P) (zb (zo563 P) zz zz) (zb (zo819 P) zz zz)) (zb (zo435 P) (zb (zo691 P) zz zz) zz)) (zb (zo243 P) (zb (zo371 P) (zb (zo627 P) zz zz) zz) (zb (zo499 P) (zb (zo755 P) zz zz) zz))))) (zb (zo27 P) (zb (zo43 P) (zb (zo75 P) (zb (zo139 P) (zb (zo267 P) (zb (zo523 P) zz zz) (zb (zo779 P) zz zz)) (zb (zo395 P) (zb (zo651 P) zz zz) zz)) (zb (zo203 P) (zb (zo331 P) (zb (zo587 P) zz zz) zz) (zb (zo459 P) (zb (zo715 P) zz zz) zz))) (zb (zo107 P) (zb (zo171 P) (zb (zo299 P) (zb (zo555 P) zz zz) (zb (zo811 P) zz zz)) (zb (zo427 P) (zb (zo683 P) zz zz) zz)) (zb (zo235 P) (zb (zo363 P) (zb (zo619 P) zz zz) zz) (zb (zo491 P) (zb (zo747 P) zz zz) zz)))) (zb (zo59 P) (zb (zo91 P) (zb (zo155 P) (zb (zo283 P) (zb (zo539 P) zz zz) (zb (zo795 P) zz zz)) (zb (zo411 P) (zb (zo667 P) zz zz) zz)) (zb (zo219 P) (zb (zo347 P) (zb (zo603 P) zz zz) zz) (zb (zo475 P) (zb (zo731 P) zz zz) zz))) (zb (zo123 P) (zb (zo187 P) (zb (zo315 P) (zb (zo571 P) zz zz) (zb (zo827 P) zz zz)) (zb (zo443 P) (zb (zo699 P) zz zz) zz)) (zb (zo251 P) (zb (zo379 P) (zb (zo635 P) zz zz) zz) (zb (zo507 P) (zb (zo763 P) zz zz) zz))))))) (zb (zo5 P) (zb (zo9 P) (zb (zo17 P) (zb (zo33 P) (zb (zo65 P) (zb (zo129 P) (zb (zo257 P) (zb (zo513 P) zz zz) (zb (zo769 P) zz zz)) (zb (zo385 P) (zb (zo641 P) zz zz) zz)) (zb (zo193 P) (zb (zo321 P) (zb (zo577 P) zz zz) (zb (zo833 P) zz zz)) (zb (zo449 P) (zb (zo705 P) zz zz) zz))) (zb (zo97 P) (zb (zo161 P) (zb (zo289 P) (zb (zo545 P) zz zz) (zb (zo801 P) zz zz)) (zb (zo417 P) (zb (zo673 P) zz zz) zz)) (zb (zo225 P) (zb (zo353 P) (zb (zo609 P) zz zz) zz) (zb (zo481 P) (zb (zo737 P) zz zz) zz)))) (zb (zo49 P) (zb (zo81 P) (zb (zo145 P) (zb (zo273 P) (zb (zo529 P) zz zz) (zb (zo785 P) zz zz)) (zb (zo401 P) (zb (zo657 P) zz zz) zz)) (zb (zo209 P) (zb (zo337 P) (zb (zo593 P) zz zz) zz) (zb (zo465 P) (zb (zo721 P) zz zz) zz))) (zb (zo113 P) (zb (zo177 P) (zb (zo305 P) (zb (zo561 P) zz zz) (zb (zo817 P) zz zz)) (zb (zo433 P) (zb (zo689 P) zz zz) zz)) (zb (zo241 P) (zb (zo369 P) (zb (zo625 P) zz zz) zz) (zb (zo497 P) (zb (zo753 P) zz zz) zz))))) (zb (zo25 P) (zb (zo41 P) (zb (zo73 P) (zb (zo137 P) (zb (zo265 P) (zb (zo521 P) zz zz) (zb (zo777 P) zz zz)) (zb (zo393 P) (zb (zo649 P) zz zz) zz)) (zb (zo201 P) (zb (zo329 P) (zb (zo585 P) zz zz) zz) (zb (zo457 P) (zb (zo713 P) zz zz) zz))) (zb (zo105 P) (zb (zo169 P) (zb (zo297 P) (zb (zo553 P) zz zz) (zb (zo809 P) zz zz)) (zb (zo425 P) (zb (zo681 P) zz zz) zz)) (zb (zo233 P) (zb (zo361 P) (zb (zo617 P) zz zz) zz) (zb (zo489 P) (zb (zo745 P) zz zz) zz)))) (zb (zo57 P) (zb (zo89 P) (zb (zo153 P) (zb (zo281 P) (zb (zo537 P) zz zz) (zb (zo793 P) zz zz)) (zb (zo409 P) (zb (zo665 P) zz zz) zz)) (zb (zo217 P) (zb (zo345 P) (zb (zo601 P) zz zz) zz) (zb (zo473 P) (zb (zo729 P) zz zz) zz))) (zb (zo121 P) (zb (zo185 P) (zb (zo313 P) (zb (zo569 P) zz zz) (zb (zo825 P) zz zz)) (zb (zo441 P) (zb (zo697 P) zz zz) zz)) (zb (zo249 P) (zb (zo377 P) (zb (zo633 P) zz zz) zz) (zb (zo505 P) (zb (zo761 P) zz zz) zz)))))) (zb (zo13 P) (zb (zo21 P) (zb (zo37 P) (zb (zo69 P) (zb (zo133 P) (zb (zo261 P) (zb (zo517 P) zz zz) (zb (zo773 P) zz zz)) (zb (zo389 P) (zb (zo645 P) zz zz) zz)) (zb (zo197 P) (zb (zo325 P) (zb (zo581 P) zz zz) (zb (zo837 P) zz zz)) (zb (zo453 P) (zb (zo709 P) zz zz) zz))) (zb (zo101 P) (zb (zo165 P) (zb (zo293 P) (zb (zo549 P) zz zz) (zb (zo805 P) zz zz)) (zb (zo421 P) (zb (zo677 P) zz zz) zz)) (zb (zo229 P) (zb (zo357 P) (zb (zo613 P) zz zz) zz) (zb (zo485 P) (zb (zo741 P) zz zz) zz)))) (zb (zo53 P) (zb (zo85 P) (zb (zo149 P) (zb (zo277 P) (zb (zo533 P) zz zz) (zb (zo789 P) zz zz)) (zb (zo405 P) (zb (zo661 P) zz zz) zz)) (zb (zo213 P) (zb (zo341 P) (zb (zo597 P) zz zz) zz) (zb (zo469 P) (zb (zo725 P) zz zz) zz))) (zb (zo117 P) (zb (zo181 P) (zb (zo309 P) (zb (zo565 P) zz zz) (zb (zo821 P) zz zz)) (zb (zo437 P) (zb (zo693 P) zz zz) zz)) (zb (zo245 P) (zb (zo373 P) (zb (zo629 P) zz zz) zz) (zb (zo501 P) (zb (zo757 P) zz zz) zz))))) (zb (zo29 P) (zb (zo45 P) (zb (zo77 P) (zb (zo141 P) (zb (zo269 P) (zb (zo525 P) zz zz) (zb (zo781 P) zz zz)) (zb (zo397 P) (zb (zo653 P) zz zz) zz)) (zb (zo205 P) (zb (zo333 P) (zb (zo589 P) zz zz) zz) (zb (zo461 P) (zb (zo717 P) zz zz) zz))) (zb (zo109 P) (zb (zo173 P) (zb (zo301 P) (zb (zo557 P) zz zz) (zb (zo813 P) zz zz)) (zb (zo429 P) (zb (zo685 P) zz zz) zz)) (zb (zo237 P) (zb (zo365 P) (zb (zo621 P) zz zz) zz) (zb (zo493 P) (zb (zo749 P) zz zz) zz)))) (zb (zo61 P) (zb (zo93 P) (zb (zo157 P) (zb (zo285 P) (zb (zo541 P) zz zz) (zb (zo797 P) zz zz)) (zb (zo413 P) (zb (zo669 P) zz zz) zz)) (zb (zo221 P) (zb (zo349 P) (zb (zo605 P) zz zz) zz) (zb (zo477 P) (zb (zo733 P) zz zz) zz))) (zb (zo125 P) (zb (zo189 P) (zb (zo317 P) (zb (zo573 P) zz zz) (zb (zo829 P) zz zz)) (zb (zo445 P) (zb (zo701 P) zz zz) zz)) (zb (zo253 P) (zb (zo381 P) (zb (zo637 P) zz zz) zz) (zb (zo509 P) (zb (zo765 P) zz zz) zz)))))))) (zb (zo2 P) (zb (zo4 P) (zb (zo8 P) (zb (zo16 P) (zb (zo32 P) (zb (zo64 P) (zb (zo128 P) (zb (zo256 P) (zb (zo512 P) zz zz) (zb (zo768 P) zz zz)) (zb (zo384 P) (zb (zo640 P) zz zz) zz)) (zb (zo192 P) (zb (zo320 P) (zb (zo576 P) zz zz) (zb (zo832 P) zz zz)) (zb (zo448 P) (zb (zo704 P) zz zz) zz))) (zb (zo96 P) (zb (zo160 P) (zb (zo288 P) (zb (zo544 P) zz zz) (zb (zo800 P) zz zz)) (zb (zo416 P) (zb (zo672 P) zz zz) zz)) (zb (zo224 P) (zb (zo352 P) (zb (zo608 P) zz zz) zz) (zb (zo480 P) (zb (zo736 P) zz zz) zz)))) (zb (zo48 P) (zb (zo80 P) (zb (zo144 P) (zb (zo272 P) (zb (zo528 P) zz zz) (zb (zo784 P) zz zz)) (zb (zo400 P) (zb (zo656 P) zz zz) zz)) (zb (zo208 P) (zb (zo336 P) (zb (zo592 P) zz zz) zz) (zb (zo464 P) (zb (zo720 P) zz zz) zz))) (zb (zo112 P) (zb (zo176 P) (zb (zo304 P) (zb (zo560 P) zz zz) (zb (zo816 P) zz zz)) (zb (zo432 P) (zb (zo688 P) zz zz) zz)) (zb (zo240 P) (zb (zo368 P) (zb (zo624 P) zz zz) zz) (zb (zo496 P) (zb (zo752 P) zz zz) zz))))) (zb (zo24 P) (zb (zo40 P) (zb (zo72 P) (zb (zo136 P) (zb (zo264 P) (zb (zo520 P) zz zz) (zb (zo776 P) zz zz)) (zb (zo392 P) (zb (zo648 P) zz zz) zz)) (zb (zo200 P) (zb (zo328 P) (zb (zo584 P) zz zz) zz) (zb (zo456 P) (zb (zo712 P) zz zz) zz))) (zb (zo104 P) (zb (zo168 P) (zb (zo296 P) (zb (zo552 P) zz zz) (zb (zo808 P) zz zz)) (zb (zo424 P) (zb (zo680 P) zz zz) zz)) (zb (zo232 P) (zb (zo360 P) (zb (zo616 P) zz zz) zz) (zb (zo488 P) (zb (zo744 P) zz zz) zz)))) (zb (zo56 P) (zb (zo88 P) (zb (zo152 P) (zb (zo280 P) (zb (zo536 P) zz zz) (zb (zo792 P) zz zz)) (zb (zo408 P) (zb (zo664 P) zz zz) zz)) (zb (zo216 P) (zb (zo344 P) (zb (zo600 P) zz zz) zz) (zb (zo472 P) (zb (zo728 P) zz zz) zz))) (zb (zo120 P) (zb (zo184 P) (zb (zo312 P) (zb (zo568 P) zz zz) (zb (zo824 P) zz zz)) (zb (zo440 P) (zb (zo696 P) zz zz) zz)) (zb (zo248 P) (zb (zo376 P) (zb (zo632 P) zz zz) zz) (zb (zo504 P) (zb (zo760 P) zz zz) zz)))))) (zb (zo12 P) (zb (zo20 P) (zb (zo36 P) (zb (zo68 P) (zb (zo132 P) (zb (zo260 P) (zb (zo516 P) zz zz) (zb (zo772 P) zz zz)) (zb (zo388 P) (zb (zo644 P) zz zz) zz)) (zb (zo196 P) (zb (zo324 P) (zb (zo580 P) zz zz) (zb (zo836 P) zz zz)) (zb (zo452 P) (zb (zo708 P) zz zz) zz))) (zb (zo100 P) (zb (zo164 P) (zb (zo292 P) (zb (zo548 P) zz zz) (zb (zo804 P) zz zz)) (zb (zo420 P) (zb (zo676 P) zz zz) zz)) (zb (zo228 P) (zb (zo356 P) (zb (zo612 P) zz zz) zz) (zb (zo484 P) (zb (zo740 P) zz zz) zz)))) (zb (zo52 P) (zb (zo84 P) (zb (zo148 P) (zb (zo276 P) (zb (zo532 P) zz zz) (zb (zo788 P) zz zz)) (zb (zo404 P) (zb (zo660 P) zz zz) zz)) (zb (zo212 P) (zb (zo340 P) (zb (zo596 P) zz zz) zz) (zb (zo468 P) (zb (zo724 P) zz zz) zz))) (zb (zo116 P) (zb (zo180 P) (zb (zo308 P) (zb (zo564 P) zz zz) (zb (zo820 P) zz zz)) (zb (zo436 P) (zb (zo692 P) zz zz) zz)) (zb (zo244 P) (zb (zo372 P) (zb (zo628 P) zz zz) zz) (zb (zo500 P) (zb (zo756 P) zz zz) zz))))) (zb (zo28 P) (zb (zo44 P) (zb (zo76 P) (zb (zo140 P) (zb (zo268 P) (zb (zo524 P) zz zz) (zb (zo780 P) zz zz)) (zb (zo396 P) (zb (zo652 P) zz zz) zz)) (zb (zo204 P) (zb (zo332 P) (zb (zo588 P) zz zz) zz) (zb (zo460 P) (zb (zo716 P) zz zz) zz))) (zb (zo108 P) (zb (zo172 P) (zb (zo300 P) (zb (zo556 P) zz zz) (zb (zo812 P) zz zz)) (zb (zo428 P) (zb (zo684 P) zz zz) zz)) (zb (zo236 P) (zb (zo364 P) (zb (zo620 P) zz zz) zz) (zb (zo492 P) (zb (zo748 P) zz zz) zz)))) (zb (zo60 P) (zb (zo92 P) (zb (zo156 P) (zb (zo284 P) (zb (zo540 P) zz zz) (zb (zo796 P) zz zz)) (zb (zo412 P) (zb (zo668 P) zz zz) zz)) (zb (zo220 P) (zb (zo348 P) (zb (zo604 P) zz zz) zz) (zb (zo476 P) (zb (zo732 P) zz zz) zz))) (zb (zo124 P) (zb (zo188 P) (zb (zo316 P) (zb (zo572 P) zz zz) (zb (zo828 P) zz zz)) (zb (zo444 P) (zb (zo700 P) zz zz) zz)) (zb (zo252 P) (zb (zo380 P) (zb (zo636 P) zz zz) zz) (zb (zo508 P) (zb (zo764 P) zz zz) zz))))))) (zb (zo6 P) (zb (zo10 P) (zb (zo18 P) (zb (zo34 P) (zb (zo66 P) (zb (zo130 P) (zb (zo258 P) (zb (zo514 P) zz zz) (zb (zo770 P) zz zz)) (zb (zo386 P) (zb (zo642 P) zz zz) zz)) (zb (zo194 P) (zb (zo322 P) (zb (zo578 P) zz zz) (zb (zo834 P) zz zz)) (zb (zo450 P) (zb (zo706 P) zz zz) zz))) (zb (zo98 P) (zb (zo162 P) (zb (zo290 P) (zb (zo546 P) zz zz) (zb (zo802 P) zz zz)) (zb (zo418 P) (zb (zo674 P) zz zz) zz)) (zb (zo226 P) (zb (zo354 P) (zb (zo610 P) zz zz) zz) (zb (zo482 P) (zb (zo738 P) zz zz) zz)))) (zb (zo50 P) (zb (zo82 P) (zb (zo146 P) (zb (zo274 P) (zb (zo530 P) zz zz) (zb (zo786 P) zz zz)) (zb (zo402 P) (zb (zo658 P) zz zz) zz)) (zb (zo210 P) (zb (zo338 P) (zb (zo594 P) zz zz) zz) (zb (zo466 P) (zb (zo722 P) zz zz) zz))) (zb (zo114 P) (zb (zo178 P) (zb (zo306 P) (zb (zo562 P) zz zz) (zb (zo818 P) zz zz)) (zb (zo434 P) (zb (zo690 P) zz zz) zz)) (zb (zo242 P) (zb (zo370 P) (zb (zo626 P) zz zz) zz) (zb (zo498 P) (zb (zo754 P) zz zz) zz))))) (zb (zo26 P) (zb (zo42 P) (zb (zo74 P) (zb (zo138 P) (zb (zo266 P) (zb (zo522 P) zz zz) (zb (zo778 P) zz zz)) (zb (zo394 P) (zb (zo650 P) zz zz) zz)) (zb (zo202 P) (zb (zo330 P) (zb (zo586 P) zz zz) zz) (zb (zo458 P) (zb (zo714 P) zz zz) zz))) (zb (zo106 P) (zb (zo170 P) (zb (zo298 P) (zb (zo554 P) zz zz) (zb (zo810 P) zz zz)) (zb (zo426 P) (zb (zo682 P) zz zz) zz)) (zb (zo234 P) (zb (zo362 P) (zb (zo618 P) zz zz) zz) (zb (zo490 P) (zb (zo746 P) zz zz) zz)))) (zb (zo58 P) (zb (zo90 P) (zb (zo154 P) (zb (zo282 P) (zb (zo538 P) zz zz) (zb (zo794 P) zz zz)) (zb (zo410 P) (zb (zo666 P) zz zz) zz)) (zb (zo218 P) (zb (zo346 P) (zb (zo602 P) zz zz) zz) (zb (zo474 P) (zb (zo730 P) zz zz) zz))) (zb (zo122 P) (zb (zo186 P) (zb (zo314 P) (zb (zo570 P) zz zz) (zb (zo826 P) zz zz)) (zb (zo442 P) (zb (zo698 P) zz zz) zz)) (zb (zo250 P) (zb (zo378 P) (zb (zo634 P) zz zz) zz) (zb (zo506 P) (zb (zo762 P) zz zz) zz)))))) (zb (zo14 P) (zb (zo22 P) (zb (zo38 P) (zb (zo70 P) (zb (zo134 P) (zb (zo262 P) (zb (zo518 P) zz zz) (zb (zo774 P) zz zz)) (zb (zo390 P) (zb (zo646 P) zz zz) zz)) (zb (zo198 P) (zb (zo326 P) (zb (zo582 P) zz zz) (zb (zo838 P) zz zz)) (zb (zo454 P) (zb (zo710 P) zz zz) zz))) (zb (zo102 P) (zb (zo166 P) (zb (zo294 P) (zb (zo550 P) zz zz) (zb (zo806 P) zz zz)) (zb (zo422 P) (zb (zo678 P) zz zz) zz)) (zb (zo230 P) (zb (zo358 P) (zb (zo614 P) zz zz) zz) (zb (zo486 P) (zb (zo742 P) zz zz) zz)))) (zb (zo54 P) (zb (zo86 P) (zb (zo150 P) (zb (zo278 P) (zb (zo534 P) zz zz) (zb (zo790 P) zz zz)) (zb (zo406 P) (zb (zo662 P) zz zz) zz)) (zb (zo214 P) (zb (zo342 P) (zb (zo598 P) zz zz) zz) (zb (zo470 P) (zb (zo726 P) zz zz) zz))) (zb (zo118 P) (zb (zo182 P) (zb (zo310 P) (zb (zo566 P) zz zz) (zb (zo822 P) zz zz)) (zb (zo438 P) (zb (zo694 P) zz zz) zz)) (zb (zo246 P) (zb (zo374 P) (zb (zo630 P) zz zz) zz) (zb (zo502 P) (zb (zo758 P) zz zz) zz))))) (zb (zo30 P) (zb (zo46 P) (zb (zo78 P) (zb (zo142 P) (zb (zo270 P) (zb (zo526 P) zz zz) (zb (zo782 P) zz zz)) (zb (zo398 P) (zb (zo654 P) zz zz) zz)) (zb (zo206 P) (zb (zo334 P) (zb (zo590 P) zz zz) zz) (zb (zo462 P) (zb (zo718 P) zz zz) zz))) (zb (zo110 P) (zb (zo174 P) (zb (zo302 P) (zb (zo558 P) zz zz) (zb (zo814 P) zz zz)) (zb (zo430 P) (zb (zo686 P) zz zz) zz)) (zb (zo238 P) (zb (zo366 P) (zb (zo622 P) zz zz) zz) (zb (zo494 P) (zb (zo750 P) zz zz) zz)))) (zb (zo62 P) (zb (zo94 P) (zb (zo158 P) (zb (zo286 P) (zb (zo542 P) zz zz) (zb (zo798 P) zz zz)) (zb (zo414 P) (zb (zo670 P) zz zz) zz)) (zb (zo222 P) (zb (zo350 P) (zb (zo606 P) zz zz) zz) (zb (zo478 P) (zb (zo734 P) zz zz) zz))) (zb (zo126 P) (zb (zo190 P) (zb (zo318 P) (zb (zo574 P) zz zz) (zb (zo830 P) zz zz)) (zb (zo446 P) (zb (zo702 P) zz zz) zz)) (zb (zo254 P) (zb (zo382 P) (zb (zo638 P) zz zz) zz) (zb (zo510 P) (zb (zo766 P) zz zz) zz)))))))))
noncomputable abbrev hpF (P : Params) : Heap := Heap.mk #[zo0 P, zo1 P, zo2 P, zo3 P, zo4 P, zo5 P, zo6 P, zo7 P, zo8 P, zo9 P, zo10 P, zo11 P, zo12 P, zo13 P, zo14 P, zo15 P, zo16 P, zo17 P, zo18 P, zo19 P, zo20 P, zo21 P, zo22 P, zo23 P, zo24 P, zo25 P, zo26 P, zo27 P, zo28 P, zo29 P, zo30 P, zo31 P, zo32 P, zo33 P, zo34 P, zo35 P, zo36 P, zo37 P, zo38 P, zo39 P, zo40 P, zo41 P, zo42 P, zo43 P, zo44 P, zo45 P, zo46 P, zo47 P, zo48 P, zo49 P, zo50 P, zo51 P, zo52 P, zo53 P, zo54 P, zo55 P, zo56 P, zo57 P, zo58 P, zo59 P, zo60 P, zo61 P, zo62 P, zo63 P, zo64 P, zo65 P, zo66 P, zo67 P, zo68 P, zo69 P, zo70 P, zo71 P, zo72 P, zo73 P, zo74 P, zo75 P, zo76 P, zo77 P, zo78 P, zo79 P, zo80 P, zo81 P, zo82 P, zo83 P, zo84 P, zo85 P, zo86 P, zo87 P, zo88 P, zo89 P, zo90 P, zo91 P, zo92 P, zo93 P, zo94 P, zo95 P, zo96 P, zo97 P, zo98 P, zo99 P, zo100 P, zo101 P, zo102 P, zo103 P, zo104 P, zo105 P, zo106 P, zo107 P, zo108 P, zo109 P, zo110 P, zo111 P, zo112 P, zo113 P, zo114 P, zo115 P, zo116 P, zo117 P, zo118 P, zo119 P, zo120 P, zo121 P, zo122 P, zo123 P, zo124 P, zo125 P, zo126 P, zo127 P, zo128 P, zo129 P, zo130 P, zo131 P, zo132 P, zo133 P, zo134 P, zo135 P, zo136 P, zo137 P, zo138 P, zo139 P, zo140 P, zo141 P, zo142 P, zo143 P, zo144 P, zo145 P, zo146 P, zo147 P, zo148 P, zo149 P, zo150 P, zo151 P, zo152 P, zo153 P, zo154 P, zo155 P, zo156 P, zo157 P, zo158 P, zo159 P, zo160 P, zo161 P, zo162 P, zo163 P, zo164 P, zo165 P, zo166 P, zo167 P, zo168 P, zo169 P, zo170 P, zo171 P, zo172 P, zo173 P, zo174 P, zo175 P, zo176 P, zo177 P, zo178 P, zo179 P, zo180 P, zo181 P, zo182 P, zo183 P, zo184 P, zo185 P, zo186 P, zo187 P, zo188 P, zo189 P, zo190 P, zo191 P, zo192 P, zo193 P, zo194 P, zo195 P, zo196 P, zo197 P, zo198 P, zo199 P, zo200 P, zo201 P, zo202 P, zo203 P, zo204 P, zo205 P, zo206 P, zo207 P, zo208 P, zo209 P, zo210 P, zo211 P, zo212 P, zo213 P, zo214 P, zo215 P, zo216 P, zo217 P, zo218 P, zo219 P, zo220 P, zo221 P, zo222 P, zo223 P, zo224 P, zo225 P, zo226 P, zo227 P, zo228 P, zo229 P, zo230 P, zo231 P, zo232 P, zo233 P, zo234 P, zo235 P, zo236 P, zo237 P, zo238 P, zo239 P, zo240 P, zo241 P, zo242 P, zo243 P, zo244 P, zo245 P, zo246 P, zo247 P, zo248 P, zo249 P, zo250 P, zo251 P, zo252 P, zo253 P, zo254 P, zo255 P, zo256 P, zo257 P, zo258 P, zo259 P, zo260 P, zo261 P, zo262 P, zo263 P, zo264 P, zo265 P, zo266 P, zo267 P, zo268 P, zo269 P, zo270 P, zo271 P, zo272 P, zo273 P, zo274 P, zo275 P, zo276 P, zo277 P, zo278 P, zo279 P, zo280 P, zo281 P, zo282 P, zo283 P, zo284 P, zo285 P, zo286 P, zo287 P, zo288 P, zo289 P, zo290 P, zo291 P, zo292 P, zo293 P, zo294 P, zo295 P, zo296 P, zo297 P, zo298 P, zo299 P, zo300 P, zo301 P, zo302 P, zo303 P, zo304 P, zo305 P, zo306 P, zo307 P, zo308 P, zo309 P, zo310 P, zo311 P, zo312 P, zo313 P, zo314 P, zo315 P, zo316 P, zo317 P, zo318 P, zo319 P, zo320 P, zo321 P, zo322 P, zo323 P, zo324 P, zo325 P, zo326 P, zo327 P, zo328 P, zo329 P, zo330 P, zo331 P, zo332 P, zo333 P, zo334 P, zo335 P, zo336 P, zo337 P, zo338 P, zo339 P, zo340 P, zo341 P, zo342 P, zo343 P, zo344 P, zo345 P, zo346 P, zo347 P, zo348 P, zo349 P, zo350 P, zo351 P, zo352 P, zo353 P, zo354 P, zo355 P, zo356 P, zo357 P, zo358 P, zo359 P, zo360 P, zo361 P, zo362 P, zo363 P, zo364 P, zo365 P, zo366 P, zo367 P, zo368 P, zo369 P, zo370 P, zo371 P, zo372 P, zo373 P, zo374 P, zo375 P, zo376 P, zo377 P, zo378 P, zo379 P, zo380 P, zo381 P, zo382 P, zo383 P, zo384 P, zo385 P, zo386 P, zo387 P, zo388 P, zo389 P, zo390 P, zo391 P, zo392 P, zo393 P, zo394 P, zo395 P, zo396 P, zo397 P, zo398 P, zo399 P, zo400 P, zo401 P, zo402 P, zo403 P, zo404 P, zo405 P, zo406 P, zo407 P, zo408 P, zo409 P, zo410 P, zo411 P, zo412 P, zo413 P, zo414 P, zo415 P, zo416 P, zo417 P, zo418 P, zo419 P, zo420 P, zo421 P, zo422 P, zo423 P, zo424 P, zo425 P, zo426 P, zo427 P, zo428 P, zo429 P, zo430 P, zo431 P, zo432 P, zo433 P, zo434 P, zo435 P, zo436 P, zo437 P, zo438 P, zo439 P, zo440 P, zo441 P, zo442 P, zo443 P, zo444 P, zo445 P, zo446 P, zo447 P, zo448 P, zo449 P, zo450 P, zo451 P, zo452 P, zo453 P, zo454 P, zo455 P, zo456 P, zo457 P, zo458 P, zo459 P, zo460 P, zo461 P, zo462 P, zo463 P, zo464 P, zo465 P, zo466 P, zo467 P, zo468 P, zo469 P, zo470 P, zo471 P, zo472 P, zo473 P, zo474 P, zo475 P, zo476 P, zo477 P, zo478 P, zo479 P, zo480 P, zo481 P, zo482 P, zo483 P, zo484 P, zo485 P, zo486 P, zo487 P, zo488 P, zo489 P, zo490 P, zo491 P, zo492 P, zo493 P, zo494 P, zo495 P, zo496 P, zo497 P, zo498 P, zo499 P, zo500 P, zo501 P, zo502 P, zo503 P, zo504 P, zo505 P, zo506 P, zo507 P, zo508 P, zo509 P, zo510 P, zo511 P, zo512 P, zo513 P, zo514 P, zo515 P, zo516 P, zo517 P, zo518 P, zo519 P, zo520 P, zo521 P, zo522 P, zo523 P, zo524 P, zo525 P, zo526 P, zo527 P, zo528 P, zo529 P, zo530 P, zo531 P, zo532 P, zo533 P, zo534 P, zo535 P, zo536 P, zo537 P, zo538 P, zo539 P, zo540 P, zo541 P, zo542 P, zo543 P, zo544 P, zo545 P, zo546 P, zo547 P, zo548 P, zo549 P, zo550 P, zo551 P, zo552 P, zo553 P, zo554 P, zo555 P, zo556 P, zo557 P, zo558 P, zo559 P, zo560 P, zo561 P, zo562 P, zo563 P, zo564 P, zo565 P, zo566 P, zo567 P, zo568 P, zo569 P, zo570 P, zo571 P, zo572 P, zo573 P, zo574 P, zo575 P, zo576 P, zo577 P, zo578 P, zo579 P, zo580 P, zo581 P, zo582 P, zo583 P, zo584 P, zo585 P, zo586 P, zo587 P, zo588 P, zo589 P, zo590 P, zo591 P, zo592 P, zo593 P, zo594 P, zo595 P, zo596 P, zo597 P, zo598 P, zo599 P, zo600 P, zo601 P, zo602 P, zo603 P, zo604 P, zo605 P, zo606 P, zo607 P, zo608 P, zo609 P, zo610 P, zo611 P, zo612 P, zo613 P, zo614 P, zo615 P, zo616 P, zo617 P, zo618 P, zo619 P, zo620 P, zo621 P, zo622 P, zo623 P, zo624 P, zo625 P, zo626 P, zo627 P, zo628 P, zo629 P, zo630 P, zo631 P, zo632 P, zo633 P, zo634 P, zo635 P, zo636 P, zo637 P, zo638 P, zo639 P, zo640 P, zo641 P, zo642 P, zo643 P, zo644 P, zo645 P, zo646 P, zo647 P, zo648 P, zo649 P, zo650 P, zo651 P, zo652 P, zo653 P, zo654 P, zo655 P, zo656 P, zo657 P, zo658 P, zo659 P, zo660 P, zo661 P, zo662 P, zo663 P, zo664 P, zo665 P, zo666 P, zo667 P, zo668 P, zo669 P, zo670 P, zo671 P, zo672 P, zo673 P, zo674 P, zo675 P, zo676 P, zo677 P, zo678 P, zo679 P, zo680 P, zo681 P, zo682 P, zo683 P, zo684 P, zo685 P, zo686 P, zo687 P, zo688 P, zo689 P, zo690 P, zo691 P, zo692 P, zo693 P, zo694 P, zo695 P, zo696 P, zo697 P, zo698 P, zo699 P, zo700 P, zo701 P, zo702 P, zo703 P, zo704 P, zo705 P, zo706 P, zo707 P, zo708 P, zo709 P, zo710 P, zo711 P, zo712 P, zo713 P, zo714 P, zo715 P, zo716 P, zo717 P, zo718 P, zo719 P, zo720 P, zo721 P, zo722 P, zo723 P, zo724 P, zo725 P, zo726 P, zo727 P, zo728 P, zo729 P, zo730 P, zo731 P, zo732 P, zo733 P, zo734 P, zo735 P, zo736 P, zo737 P, zo738 P, zo739 P, zo740 P, zo741 P, zo742 P, zo743 P, zo744 P, zo745 P, zo746 P, zo747 P, zo748 P, zo749 P, zo750 P, zo751 P, zo752 P, zo753 P, zo754 P, zo755 P, zo756 P, zo757 P, zo758 P, zo759 P, zo760 P, zo761 P, zo762 P, zo763 P, zo764 P, zo765 P, zo766 P, zo767 P, zo768 P, zo769 P, zo770 P, zo771 P, zo772 P, zo773 P, zo774 P, zo775 P, zo776 P, zo777 P, zo778 P, zo779 P, zo780 P, zo781 P, zo782 P, zo783 P, zo784 P, zo785 P, zo786 P, zo787 P, zo788 P, zo789 P, zo790 P, zo791 P, zo792 P, zo793 P, zo794 P, zo795 P, zo796 P, zo797 P, zo798 P, zo799 P, zo800 P, zo801 P, zo802 P, zo803 P, zo804 P, zo805 P, zo806 P, zo807 P, zo808 P, zo809 P, zo810 P, zo811 P, zo812 P, zo813 P, zo814 P, zo815 P, zo816 P, zo817 P, zo818 P, zo819 P, zo820 P, zo821 P, zo822 P, zo823 P, zo824 P, zo825 P, zo826 P, zo827 P, zo828 P, zo829 P, zo830 P, zo831 P, zo832 P, zo833 P, zo834 P, zo835 P, zo836 P, zo837 P, zo838 P] (Life.mk [] [] [] 0 [] [] Bool.false #[] [] 0 Bool.false Bool.false Bool.false (0 : Int) [(2000 : Int), (10 : Int), (10 : Int)] Bool.false 0 Bool.true [] [] 0 Bool.false)
noncomputable abbrev tEnv : Env := { scope := tPW.main.scope, locals := mainNs, globals := mainNs, cells := [], code := (zr 36), frame := some 37 }
noncomputable abbrev tQ : Pos := (Pos.mk 0 0 0 0)
noncomputable abbrev tAnn : Option Value := (some (zr 6))
noncomputable abbrev shA (w : World) (os : OsState) : Shared := Shared.mk (hpA w.params) #[] (Drawn.mk 0 0 0 0) 324 os
noncomputable abbrev sh0 (w : World) (os : OsState) : Shared := Shared.mk (hp0 w.params) #[] (Drawn.mk 0 0 0 0) 318 os
noncomputable abbrev dr0 : Drawn := (Drawn.mk 0 0 0 0)
noncomputable abbrev dr1 : Drawn := (Drawn.mk 0 0 0 0)
noncomputable abbrev st0 (w : World) (os : OsState) : SharedT := SharedT.mk (bt0 w.params) 38 (Life.mk [] [] [] 0 [] [] Bool.false #[] [] 0 Bool.false Bool.false Bool.false (0 : Int) [(2000 : Int), (10 : Int), (10 : Int)] Bool.false 0 Bool.true [] [] 0 Bool.false) #[] (Drawn.mk 0 0 0 0) 324 os
noncomputable abbrev ps0 : Pos := (Pos.mk 0 0 0 0)
noncomputable abbrev st1 (w : World) (os : OsState) : SharedT := SharedT.mk (bt1 w.params) 64 (Life.mk [] [] [] 0 [] [] Bool.false #[] [] 0 Bool.false Bool.false Bool.false (0 : Int) [(2000 : Int), (10 : Int), (10 : Int)] Bool.false 0 Bool.true [] [] 0 Bool.false) #[] (Drawn.mk 0 0 0 0) 397 os
noncomputable abbrev ps1 : Pos := (Pos.mk 49 0 49 8)
noncomputable abbrev st2 (w : World) (os : OsState) : SharedT := SharedT.mk (bt2 w.params) 69 (Life.mk [] [] [] 0 [] [] Bool.false #[] [] 0 Bool.false Bool.false Bool.false (0 : Int) [(2000 : Int), (10 : Int), (10 : Int)] Bool.false 0 Bool.true [] [] 0 Bool.false) #[] (Drawn.mk 0 0 0 0) 543 os
noncomputable abbrev ps2 : Pos := (Pos.mk 50 0 50 18)
noncomputable abbrev st3 (w : World) (os : OsState) : SharedT := SharedT.mk (bt3 w.params) 161 (Life.mk [] [] [] 0 [] [] Bool.false #[] [] 0 Bool.false Bool.false Bool.false (0 : Int) [(2000 : Int), (10 : Int), (10 : Int)] Bool.false 0 Bool.true [] [] 0 Bool.false) #[] (Drawn.mk 0 0 0 0) 719 os
noncomputable abbrev ps3 : Pos := (Pos.mk 145 0 146 21)
noncomputable abbrev st4 (w : World) (os : OsState) : SharedT := SharedT.mk (bt4 w.params) 391 (Life.mk [] [] [] 0 [] [] Bool.false #[] [] 0 Bool.false Bool.false Bool.false (0 : Int) [(2000 : Int), (10 : Int), (10 : Int)] Bool.false 0 Bool.true [] [] 0 Bool.false) #[] (Drawn.mk 0 0 0 0) 981 os
noncomputable abbrev ps4 : Pos := (Pos.mk 147 0 316 17)
noncomputable abbrev st5 (w : World) (os : OsState) : SharedT := SharedT.mk (bt5 w.params) 638 (Life.mk [] [] [] 0 [] [] Bool.false #[] [] 0 Bool.false Bool.false Bool.false (0 : Int) [(2000 : Int), (10 : Int), (10 : Int)] Bool.false 0 Bool.true [] [] 0 Bool.false) #[] (Drawn.mk 0 0 0 0) 1268 os
noncomputable abbrev ps5 : Pos := (Pos.mk 317 0 521 17)
noncomputable abbrev st6 (w : World) (os : OsState) : SharedT := SharedT.mk (bt6 w.params) 839 (Life.mk [] [] [] 0 [] [] Bool.false #[] [] 0 Bool.false Bool.false Bool.false (0 : Int) [(2000 : Int), (10 : Int), (10 : Int)] Bool.false 0 Bool.true [] [] 0 Bool.false) #[] (Drawn.mk 0 0 0 0) 1549 os
noncomputable abbrev ps6 : Pos := (Pos.mk 903 0 917 57)
noncomputable abbrev psA : Pos := (Pos.mk 0 0 0 0)
noncomputable abbrev shF (w : World) (os : OsState) : Shared := Shared.mk (hpF w.params) #[] (Drawn.mk 0 0 0 0) 1549 os
noncomputable abbrev tl1 : List Stmt := ((behindTheImports tPW).drop 0).take 6
noncomputable abbrev tl2 : List Stmt := ((behindTheImports tPW).drop 6).take 1
noncomputable abbrev tl3 : List Stmt := ((behindTheImports tPW).drop 7).take 11
noncomputable abbrev tl4 : List Stmt := ((behindTheImports tPW).drop 18).take 1
noncomputable abbrev tl5 : List Stmt := ((behindTheImports tPW).drop 19).take 1
noncomputable abbrev tl6 : List Stmt := ((behindTheImports tPW).drop 20).take 23
noncomputable abbrev kAs : List Nat := [2, 3, 38, 40, 41, 43, 44, 45, 47, 48, 50, 51, 52, 54, 55, 57, 58, 62, 63, 65, 69, 71, 72, 74, 75, 76, 78, 79, 81, 82, 86, 87, 88, 90, 91, 93, 94, 95, 97, 98, 100, 101, 102, 109, 110, 111, 112, 122, 124, 125, 127, 128, 129, 130, 131, 132, 133, 134, 137, 144, 145, 146, 149, 156, 157, 158, 161, 168, 169, 171, 172, 174, 175, 176, 178, 179, 181, 182, 183, 185, 186, 188, 189, 190, 192, 193, 195, 196, 197, 198, 200, 201, 203, 204, 205, 207, 208, 210, 211, 212, 214, 215, 217, 218, 219, 221, 222, 224, 225, 226, 228, 229, 231, 232, 233, 235, 236, 238, 239, 240, 242, 243, 245, 246, 247, 249, 250, 252, 253, 254, 256, 257, 259, 260, 261, 263, 264, 266, 267, 268, 270, 271, 273, 274, 275, 277, 278, 280, 281, 282, 284, 285, 287, 288, 289, 290, 292, 293, 295, 296, 297, 298, 300, 301, 303, 304, 305, 306, 308, 309, 311, 312, 313, 314, 316, 317, 319, 320, 321, 323, 324, 326, 327, 328, 330, 331, 333, 334, 335, 336, 338, 339, 341, 342, 343, 344, 346, 347, 349, 350, 351, 353, 354, 356, 357, 358, 360, 361, 363, 364, 365, 367, 368, 370, 371, 372, 374, 375, 377, 378, 379, 381, 382, 384, 385, 386, 387, 388, 391, 398, 399, 401, 402, 404, 405, 406, 408, 409, 411, 412, 413, 415, 416, 418, 419, 420, 422, 423, 425, 426, 427, 429, 430, 432, 433, 434, 436, 437, 439, 440, 441, 442, 444, 445, 447, 448, 449, 450, 452, 453, 455, 456, 457, 458, 460, 461, 463, 464, 465, 466, 468, 469, 471, 472, 473, 474, 476, 477, 479, 480, 481, 483, 484, 486, 487, 488, 490, 491, 493, 494, 495, 497, 498, 500, 501, 502, 504, 505, 507, 508, 509, 511, 512, 514, 515, 516, 518, 519, 521, 522, 523, 525, 526, 528, 529, 530, 532, 533, 535, 536, 537, 539, 540, 542, 543, 544, 546, 547, 549, 550, 551, 553, 554, 556, 557, 558, 559, 561, 562, 564, 565, 566, 567, 569, 570, 572, 573, 574, 575, 577, 578, 580, 581, 582, 583, 585, 586, 588, 589, 590, 591, 593, 594, 596, 597, 598, 600, 601, 603, 604, 605, 607, 608, 610, 611, 612, 614, 615, 617, 618, 619, 621, 622, 624, 625, 626, 628, 629, 631, 632, 633, 634, 635, 638, 640, 641, 643, 644, 645, 647, 648, 650, 651, 652, 654, 655, 657, 658, 659, 661, 662, 664, 665, 666, 668, 669, 671, 672, 673, 675, 676, 678, 679, 687, 688, 690, 691, 693, 694, 695, 697, 698, 700, 701, 702, 703, 705, 706, 708, 709, 710, 711, 713, 714, 716, 717, 718, 720, 721, 723, 724, 725, 727, 728, 730, 731, 732, 734, 735, 737, 738, 739, 741, 742, 744, 745, 746, 747, 749, 750, 752, 753, 754, 756, 757, 759, 760, 761, 763, 764, 766, 767, 768, 769, 770, 771, 772, 775, 776, 778, 779, 781, 782, 783, 785, 786, 788, 789, 790, 791, 793, 794, 796, 797, 798, 801, 802, 803, 806, 807, 808, 810, 811, 813, 814, 815, 818, 819, 820, 822, 823, 825, 826, 827, 829, 830, 832, 833, 834, 837, 838]
noncomputable def tKf (P : Params) : Frag := (nat_lit 2, zo2 P) :: (nat_lit 3, zo3 P) :: (nat_lit 38, zo38 P) :: (nat_lit 40, zo40 P) :: (nat_lit 41, zo41 P) :: (nat_lit 43, zo43 P) :: (nat_lit 44, zo44 P) :: (nat_lit 45, zo45 P) :: (nat_lit 47, zo47 P) :: (nat_lit 48, zo48 P) :: (nat_lit 50, zo50 P) :: (nat_lit 51, zo51 P) :: (nat_lit 52, zo52 P) :: (nat_lit 54, zo54 P) :: (nat_lit 55, zo55 P) :: (nat_lit 57, zo57 P) :: (nat_lit 58, zo58 P) :: (nat_lit 62, zo62 P) :: (nat_lit 63, zo63 P) :: (nat_lit 65, zo65 P) :: (nat_lit 69, zo69 P) :: (nat_lit 71, zo71 P) :: (nat_lit 72, zo72 P) :: (nat_lit 74, zo74 P) :: (nat_lit 75, zo75 P) :: (nat_lit 76, zo76 P) :: (nat_lit 78, zo78 P) :: (nat_lit 79, zo79 P) :: (nat_lit 81, zo81 P) :: (nat_lit 82, zo82 P) :: (nat_lit 86, zo86 P) :: (nat_lit 87, zo87 P) :: (nat_lit 88, zo88 P) :: (nat_lit 90, zo90 P) :: (nat_lit 91, zo91 P) :: (nat_lit 93, zo93 P) :: (nat_lit 94, zo94 P) :: (nat_lit 95, zo95 P) :: (nat_lit 97, zo97 P) :: (nat_lit 98, zo98 P) :: (nat_lit 100, zo100 P) :: (nat_lit 101, zo101 P) :: (nat_lit 102, zo102 P) :: (nat_lit 109, zo109 P) :: (nat_lit 110, zo110 P) :: (nat_lit 111, zo111 P) :: (nat_lit 112, zo112 P) :: (nat_lit 122, zo122 P) :: (nat_lit 124, zo124 P) :: (nat_lit 125, zo125 P) :: (nat_lit 127, zo127 P) :: (nat_lit 128, zo128 P) :: (nat_lit 129, zo129 P) :: (nat_lit 130, zo130 P) :: (nat_lit 131, zo131 P) :: (nat_lit 132, zo132 P) :: (nat_lit 133, zo133 P) :: (nat_lit 134, zo134 P) :: (nat_lit 137, zo137 P) :: (nat_lit 144, zo144 P) :: (nat_lit 145, zo145 P) :: (nat_lit 146, zo146 P) :: (nat_lit 149, zo149 P) :: (nat_lit 156, zo156 P) :: (nat_lit 157, zo157 P) :: (nat_lit 158, zo158 P) :: (nat_lit 161, zo161 P) :: (nat_lit 168, zo168 P) :: (nat_lit 169, zo169 P) :: (nat_lit 171, zo171 P) :: (nat_lit 172, zo172 P) :: (nat_lit 174, zo174 P) :: (nat_lit 175, zo175 P) :: (nat_lit 176, zo176 P) :: (nat_lit 178, zo178 P) :: (nat_lit 179, zo179 P) :: (nat_lit 181, zo181 P) :: (nat_lit 182, zo182 P) :: (nat_lit 183, zo183 P) :: (nat_lit 185, zo185 P) :: (nat_lit 186, zo186 P) :: (nat_lit 188, zo188 P) :: (nat_lit 189, zo189 P) :: (nat_lit 190, zo190 P) :: (nat_lit 192, zo192 P) :: (nat_lit 193, zo193 P) :: (nat_lit 195, zo195 P) :: (nat_lit 196, zo196 P) :: (nat_lit 197, zo197 P) :: (nat_lit 198, zo198 P) :: (nat_lit 200, zo200 P) :: (nat_lit 201, zo201 P) :: (nat_lit 203, zo203 P) :: (nat_lit 204, zo204 P) :: (nat_lit 205, zo205 P) :: (nat_lit 207, zo207 P) :: (nat_lit 208, zo208 P) :: (nat_lit 210, zo210 P) :: (nat_lit 211, zo211 P) :: (nat_lit 212, zo212 P) :: (nat_lit 214, zo214 P) :: (nat_lit 215, zo215 P) :: (nat_lit 217, zo217 P) :: (nat_lit 218, zo218 P) :: (nat_lit 219, zo219 P) :: (nat_lit 221, zo221 P) :: (nat_lit 222, zo222 P) :: (nat_lit 224, zo224 P) :: (nat_lit 225, zo225 P) :: (nat_lit 226, zo226 P) :: (nat_lit 228, zo228 P) :: (nat_lit 229, zo229 P) :: (nat_lit 231, zo231 P) :: (nat_lit 232, zo232 P) :: (nat_lit 233, zo233 P) :: (nat_lit 235, zo235 P) :: (nat_lit 236, zo236 P) :: (nat_lit 238, zo238 P) :: (nat_lit 239, zo239 P) :: (nat_lit 240, zo240 P) :: (nat_lit 242, zo242 P) :: (nat_lit 243, zo243 P) :: (nat_lit 245, zo245 P) :: (nat_lit 246, zo246 P) :: (nat_lit 247, zo247 P) :: (nat_lit 249, zo249 P) :: (nat_lit 250, zo250 P) :: (nat_lit 252, zo252 P) :: (nat_lit 253, zo253 P) :: (nat_lit 254, zo254 P) :: (nat_lit 256, zo256 P) :: (nat_lit 257, zo257 P) :: (nat_lit 259, zo259 P) :: (nat_lit 260, zo260 P) :: (nat_lit 261, zo261 P) :: (nat_lit 263, zo263 P) :: (nat_lit 264, zo264 P) :: (nat_lit 266, zo266 P) :: (nat_lit 267, zo267 P) :: (nat_lit 268, zo268 P) :: (nat_lit 270, zo270 P) :: (nat_lit 271, zo271 P) :: (nat_lit 273, zo273 P) :: (nat_lit 274, zo274 P) :: (nat_lit 275, zo275 P) :: (nat_lit 277, zo277 P) :: (nat_lit 278, zo278 P) :: (nat_lit 280, zo280 P) :: (nat_lit 281, zo281 P) :: (nat_lit 282, zo282 P) :: (nat_lit 284, zo284 P) :: (nat_lit 285, zo285 P) :: (nat_lit 287, zo287 P) :: (nat_lit 288, zo288 P) :: (nat_lit 289, zo289 P) :: (nat_lit 290, zo290 P) :: (nat_lit 292, zo292 P) :: (nat_lit 293, zo293 P) :: (nat_lit 295, zo295 P) :: (nat_lit 296, zo296 P) :: (nat_lit 297, zo297 P) :: (nat_lit 298, zo298 P) :: (nat_lit 300, zo300 P) :: (nat_lit 301, zo301 P) :: (nat_lit 303, zo303 P) :: (nat_lit 304, zo304 P) :: (nat_lit 305, zo305 P) :: (nat_lit 306, zo306 P) :: (nat_lit 308, zo308 P) :: (nat_lit 309, zo309 P) :: (nat_lit 311, zo311 P) :: (nat_lit 312, zo312 P) :: (nat_lit 313, zo313 P) :: (nat_lit 314, zo314 P) :: (nat_lit 316, zo316 P) :: (nat_lit 317, zo317 P) :: (nat_lit 319, zo319 P) :: (nat_lit 320, zo320 P) :: (nat_lit 321, zo321 P) :: (nat_lit 323, zo323 P) :: (nat_lit 324, zo324 P) :: (nat_lit 326, zo326 P) :: (nat_lit 327, zo327 P) :: (nat_lit 328, zo328 P) :: (nat_lit 330, zo330 P) :: (nat_lit 331, zo331 P) :: (nat_lit 333, zo333 P) :: (nat_lit 334, zo334 P) :: (nat_lit 335, zo335 P) :: (nat_lit 336, zo336 P) :: (nat_lit 338, zo338 P) :: (nat_lit 339, zo339 P) :: (nat_lit 341, zo341 P) :: (nat_lit 342, zo342 P) :: (nat_lit 343, zo343 P) :: (nat_lit 344, zo344 P) :: (nat_lit 346, zo346 P) :: (nat_lit 347, zo347 P) :: (nat_lit 349, zo349 P) :: (nat_lit 350, zo350 P) :: (nat_lit 351, zo351 P) :: (nat_lit 353, zo353 P) :: (nat_lit 354, zo354 P) :: (nat_lit 356, zo356 P) :: (nat_lit 357, zo357 P) :: (nat_lit 358, zo358 P) :: (nat_lit 360, zo360 P) :: (nat_lit 361, zo361 P) :: (nat_lit 363, zo363 P) :: (nat_lit 364, zo364 P) :: (nat_lit 365, zo365 P) :: (nat_lit 367, zo367 P) :: (nat_lit 368, zo368 P) :: (nat_lit 370, zo370 P) :: (nat_lit 371, zo371 P) :: (nat_lit 372, zo372 P) :: (nat_lit 374, zo374 P) :: (nat_lit 375, zo375 P) :: (nat_lit 377, zo377 P) :: (nat_lit 378, zo378 P) :: (nat_lit 379, zo379 P) :: (nat_lit 381, zo381 P) :: (nat_lit 382, zo382 P) :: (nat_lit 384, zo384 P) :: (nat_lit 385, zo385 P) :: (nat_lit 386, zo386 P) :: (nat_lit 387, zo387 P) :: (nat_lit 388, zo388 P) :: (nat_lit 391, zo391 P) :: (nat_lit 398, zo398 P) :: (nat_lit 399, zo399 P) :: (nat_lit 401, zo401 P) :: (nat_lit 402, zo402 P) :: (nat_lit 404, zo404 P) :: (nat_lit 405, zo405 P) :: (nat_lit 406, zo406 P) :: (nat_lit 408, zo408 P) :: (nat_lit 409, zo409 P) :: (nat_lit 411, zo411 P) :: (nat_lit 412, zo412 P) :: (nat_lit 413, zo413 P) :: (nat_lit 415, zo415 P) :: (nat_lit 416, zo416 P) :: (nat_lit 418, zo418 P) :: (nat_lit 419, zo419 P) :: (nat_lit 420, zo420 P) :: (nat_lit 422, zo422 P) :: (nat_lit 423, zo423 P) :: (nat_lit 425, zo425 P) :: (nat_lit 426, zo426 P) :: (nat_lit 427, zo427 P) :: (nat_lit 429, zo429 P) :: (nat_lit 430, zo430 P) :: (nat_lit 432, zo432 P) :: (nat_lit 433, zo433 P) :: (nat_lit 434, zo434 P) :: (nat_lit 436, zo436 P) :: (nat_lit 437, zo437 P) :: (nat_lit 439, zo439 P) :: (nat_lit 440, zo440 P) :: (nat_lit 441, zo441 P) :: (nat_lit 442, zo442 P) :: (nat_lit 444, zo444 P) :: (nat_lit 445, zo445 P) :: (nat_lit 447, zo447 P) :: (nat_lit 448, zo448 P) :: (nat_lit 449, zo449 P) :: (nat_lit 450, zo450 P) :: (nat_lit 452, zo452 P) :: (nat_lit 453, zo453 P) :: (nat_lit 455, zo455 P) :: (nat_lit 456, zo456 P) :: (nat_lit 457, zo457 P) :: (nat_lit 458, zo458 P) :: (nat_lit 460, zo460 P) :: (nat_lit 461, zo461 P) :: (nat_lit 463, zo463 P) :: (nat_lit 464, zo464 P) :: (nat_lit 465, zo465 P) :: (nat_lit 466, zo466 P) :: (nat_lit 468, zo468 P) :: (nat_lit 469, zo469 P) :: (nat_lit 471, zo471 P) :: (nat_lit 472, zo472 P) :: (nat_lit 473, zo473 P) :: (nat_lit 474, zo474 P) :: (nat_lit 476, zo476 P) :: (nat_lit 477, zo477 P) :: (nat_lit 479, zo479 P) :: (nat_lit 480, zo480 P) :: (nat_lit 481, zo481 P) :: (nat_lit 483, zo483 P) :: (nat_lit 484, zo484 P) :: (nat_lit 486, zo486 P) :: (nat_lit 487, zo487 P) :: (nat_lit 488, zo488 P) :: (nat_lit 490, zo490 P) :: (nat_lit 491, zo491 P) :: (nat_lit 493, zo493 P) :: (nat_lit 494, zo494 P) :: (nat_lit 495, zo495 P) :: (nat_lit 497, zo497 P) :: (nat_lit 498, zo498 P) :: (nat_lit 500, zo500 P) :: (nat_lit 501, zo501 P) :: (nat_lit 502, zo502 P) :: (nat_lit 504, zo504 P) :: (nat_lit 505, zo505 P) :: (nat_lit 507, zo507 P) :: (nat_lit 508, zo508 P) :: (nat_lit 509, zo509 P) :: (nat_lit 511, zo511 P) :: (nat_lit 512, zo512 P) :: (nat_lit 514, zo514 P) :: (nat_lit 515, zo515 P) :: (nat_lit 516, zo516 P) :: (nat_lit 518, zo518 P) :: (nat_lit 519, zo519 P) :: (nat_lit 521, zo521 P) :: (nat_lit 522, zo522 P) :: (nat_lit 523, zo523 P) :: (nat_lit 525, zo525 P) :: (nat_lit 526, zo526 P) :: (nat_lit 528, zo528 P) :: (nat_lit 529, zo529 P) :: (nat_lit 530, zo530 P) :: (nat_lit 532, zo532 P) :: (nat_lit 533, zo533 P) :: (nat_lit 535, zo535 P) :: (nat_lit 536, zo536 P) :: (nat_lit 537, zo537 P) :: (nat_lit 539, zo539 P) :: (nat_lit 540, zo540 P) :: (nat_lit 542, zo542 P) :: (nat_lit 543, zo543 P) :: (nat_lit 544, zo544 P) :: (nat_lit 546, zo546 P) :: (nat_lit 547, zo547 P) :: (nat_lit 549, zo549 P) :: (nat_lit 550, zo550 P) :: (nat_lit 551, zo551 P) :: (nat_lit 553, zo553 P) :: (nat_lit 554, zo554 P) :: (nat_lit 556, zo556 P) :: (nat_lit 557, zo557 P) :: (nat_lit 558, zo558 P) :: (nat_lit 559, zo559 P) :: (nat_lit 561, zo561 P) :: (nat_lit 562, zo562 P) :: (nat_lit 564, zo564 P) :: (nat_lit 565, zo565 P) :: (nat_lit 566, zo566 P) :: (nat_lit 567, zo567 P) :: (nat_lit 569, zo569 P) :: (nat_lit 570, zo570 P) :: (nat_lit 572, zo572 P) :: (nat_lit 573, zo573 P) :: (nat_lit 574, zo574 P) :: (nat_lit 575, zo575 P) :: (nat_lit 577, zo577 P) :: (nat_lit 578, zo578 P) :: (nat_lit 580, zo580 P) :: (nat_lit 581, zo581 P) :: (nat_lit 582, zo582 P) :: (nat_lit 583, zo583 P) :: (nat_lit 585, zo585 P) :: (nat_lit 586, zo586 P) :: (nat_lit 588, zo588 P) :: (nat_lit 589, zo589 P) :: (nat_lit 590, zo590 P) :: (nat_lit 591, zo591 P) :: (nat_lit 593, zo593 P) :: (nat_lit 594, zo594 P) :: (nat_lit 596, zo596 P) :: (nat_lit 597, zo597 P) :: (nat_lit 598, zo598 P) :: (nat_lit 600, zo600 P) :: (nat_lit 601, zo601 P) :: (nat_lit 603, zo603 P) :: (nat_lit 604, zo604 P) :: (nat_lit 605, zo605 P) :: (nat_lit 607, zo607 P) :: (nat_lit 608, zo608 P) :: (nat_lit 610, zo610 P) :: (nat_lit 611, zo611 P) :: (nat_lit 612, zo612 P) :: (nat_lit 614, zo614 P) :: (nat_lit 615, zo615 P) :: (nat_lit 617, zo617 P) :: (nat_lit 618, zo618 P) :: (nat_lit 619, zo619 P) :: (nat_lit 621, zo621 P) :: (nat_lit 622, zo622 P) :: (nat_lit 624, zo624 P) :: (nat_lit 625, zo625 P) :: (nat_lit 626, zo626 P) :: (nat_lit 628, zo628 P) :: (nat_lit 629, zo629 P) :: (nat_lit 631, zo631 P) :: (nat_lit 632, zo632 P) :: (nat_lit 633, zo633 P) :: (nat_lit 634, zo634 P) :: (nat_lit 635, zo635 P) :: (nat_lit 638, zo638 P) :: (nat_lit 640, zo640 P) :: (nat_lit 641, zo641 P) :: (nat_lit 643, zo643 P) :: (nat_lit 644, zo644 P) :: (nat_lit 645, zo645 P) :: (nat_lit 647, zo647 P) :: (nat_lit 648, zo648 P) :: (nat_lit 650, zo650 P) :: (nat_lit 651, zo651 P) :: (nat_lit 652, zo652 P) :: (nat_lit 654, zo654 P) :: (nat_lit 655, zo655 P) :: (nat_lit 657, zo657 P) :: (nat_lit 658, zo658 P) :: (nat_lit 659, zo659 P) :: (nat_lit 661, zo661 P) :: (nat_lit 662, zo662 P) :: (nat_lit 664, zo664 P) :: (nat_lit 665, zo665 P) :: (nat_lit 666, zo666 P) :: (nat_lit 668, zo668 P) :: (nat_lit 669, zo669 P) :: (nat_lit 671, zo671 P) :: (nat_lit 672, zo672 P) :: (nat_lit 673, zo673 P) :: (nat_lit 675, zo675 P) :: (nat_lit 676, zo676 P) :: (nat_lit 678, zo678 P) :: (nat_lit 679, zo679 P) :: (nat_lit 687, zo687 P) :: (nat_lit 688, zo688 P) :: (nat_lit 690, zo690 P) :: (nat_lit 691, zo691 P) :: (nat_lit 693, zo693 P) :: (nat_lit 694, zo694 P) :: (nat_lit 695, zo695 P) :: (nat_lit 697, zo697 P) :: (nat_lit 698, zo698 P) :: (nat_lit 700, zo700 P) :: (nat_lit 701, zo701 P) :: (nat_lit 702, zo702 P) :: (nat_lit 703, zo703 P) :: (nat_lit 705, zo705 P) :: (nat_lit 706, zo706 P) :: (nat_lit 708, zo708 P) :: (nat_lit 709, zo709 P) :: (nat_lit 710, zo710 P) :: (nat_lit 711, zo711 P) :: (nat_lit 713, zo713 P) :: (nat_lit 714, zo714 P) :: (nat_lit 716, zo716 P) :: (nat_lit 717, zo717 P) :: (nat_lit 718, zo718 P) :: (nat_lit 720, zo720 P) :: (nat_lit 721, zo721 P) :: (nat_lit 723, zo723 P) :: (nat_lit 724, zo724 P) :: (nat_lit 725, zo725 P) :: (nat_lit 727, zo727 P) :: (nat_lit 728, zo728 P) :: (nat_lit 730, zo730 P) :: (nat_lit 731, zo731 P) :: (nat_lit 732, zo732 P) :: (nat_lit 734, zo734 P) :: (nat_lit 735, zo735 P) :: (nat_lit 737, zo737 P) :: (nat_lit 738, zo738 P) :: (nat_lit 739, zo739 P) :: (nat_lit 741, zo741 P) :: (nat_lit 742, zo742 P) :: (nat_lit 744, zo744 P) :: (nat_lit 745, zo745 P) :: (nat_lit 746, zo746 P) :: (nat_lit 747, zo747 P) :: (nat_lit 749, zo749 P) :: (nat_lit 750, zo750 P) :: (nat_lit 752, zo752 P) :: (nat_lit 753, zo753 P) :: (nat_lit 754, zo754 P) :: (nat_lit 756, zo756 P) :: (nat_lit 757, zo757 P) :: (nat_lit 759, zo759 P) :: (nat_lit 760, zo760 P) :: (nat_lit 761, zo761 P) :: (nat_lit 763, zo763 P) :: (nat_lit 764, zo764 P) :: (nat_lit 766, zo766 P) :: (nat_lit 767, zo767 P) :: (nat_lit 768, zo768 P) :: (nat_lit 769, zo769 P) :: (nat_lit 770, zo770 P) :: (nat_lit 771, zo771 P) :: (nat_lit 772, zo772 P) :: (nat_lit 775, zo775 P) :: (nat_lit 776, zo776 P) :: (nat_lit 778, zo778 P) :: (nat_lit 779, zo779 P) :: (nat_lit 781, zo781 P) :: (nat_lit 782, zo782 P) :: (nat_lit 783, zo783 P) :: (nat_lit 785, zo785 P) :: (nat_lit 786, zo786 P) :: (nat_lit 788, zo788 P) :: (nat_lit 789, zo789 P) :: (nat_lit 790, zo790 P) :: (nat_lit 791, zo791 P) :: (nat_lit 793, zo793 P) :: (nat_lit 794, zo794 P) :: (nat_lit 796, zo796 P) :: (nat_lit 797, zo797 P) :: (nat_lit 798, zo798 P) :: (nat_lit 801, zo801 P) :: (nat_lit 802, zo802 P) :: (nat_lit 803, zo803 P) :: (nat_lit 806, zo806 P) :: (nat_lit 807, zo807 P) :: (nat_lit 808, zo808 P) :: (nat_lit 810, zo810 P) :: (nat_lit 811, zo811 P) :: (nat_lit 813, zo813 P) :: (nat_lit 814, zo814 P) :: (nat_lit 815, zo815 P) :: (nat_lit 818, zo818 P) :: (nat_lit 819, zo819 P) :: (nat_lit 820, zo820 P) :: (nat_lit 822, zo822 P) :: (nat_lit 823, zo823 P) :: (nat_lit 825, zo825 P) :: (nat_lit 826, zo826 P) :: (nat_lit 827, zo827 P) :: (nat_lit 829, zo829 P) :: (nat_lit 830, zo830 P) :: (nat_lit 832, zo832 P) :: (nat_lit 833, zo833 P) :: (nat_lit 834, zo834 P) :: (nat_lit 837, zo837 P) :: (nat_lit 838, zo838 P) :: []
noncomputable abbrev tCE : Code := Code.body (behindTheImports tPW) tEnv
noncomputable abbrev tBS : List Frame := [topFrame tQ]
theorem h_open (w : World) : (fencedOpening treeTable tPW w 13344).map (fun s => (s.heap, s.gens, s.drawn, s.toks)) = some (hp0 w.params, #[], dr0, 318) := by
  unfold fencedOpening
  rewrite [PySem.W.Fast.te10274390034422433532, PySem.W.Fast.te14364793385576792824, PySem.W.Fast.te14289696077712309145, PySem.W.Fast.te1435165496053646825]
  kernel_rfl
theorem h_pre (w : World) : (fun os => topGo treeTable tPW w 34 tAnn 12 (sh0 w os) (topStub tPW)) = fun os => some (shA w os, Thread.mk (denote treeTable tCE) tCE psA tBS) := by
  rewrite [PySem.W.Fast.te15667345088766844465, PySem.W.Fast.te11892475500146522536, PySem.W.Fast.te14364793385576792824]
  kernel_rfl
theorem h_blk (w : World) : (fun os => segRun treeTable tPW w 34 tAnn 1 1 (shA w os) (blockOf (behindTheImports tPW) tEnv tCE psA tBS)) = fun os => some (Flow.next, (st0 w os).abs, tCE, ps0) := by
  rewrite [PySem.W.Fast.te14374325043358763698, PySem.W.Fast.te14364793385576792824]
  kernel_rfl
theorem h_p1 (w : World) : (fun os => segRunT treeTable tPW w 34 tAnn 1 197 (st0 w os) (piecesOf tl1 tEnv tCE ps0 tBS)) = fun os => some (Flow.next, st1 w os, tCE, ps1) := by
  rewrite [PySem.W.Fast.te10110043849684766642, PySem.W.Fast.te14364793385576792824]
  kernel_rfl
def PP2 (w : World) : Prop := (fun os => segRunT treeTable tPW w 34 tAnn 1 1253 (st1 w os) (piecesOf tl2 tEnv tCE ps1 tBS)) = fun os => some (Flow.next, st2 w os, tCE, ps2)
theorem h_p2ff (w : World) : PP2 ((w.withFollow "special-get-raises" false).withFollow "comprehension-iter-twice" false) := by
  unfold PP2
  rewrite [PySem.W.Fast.te10110043849684766642, PySem.W.Fast.te14364793385576792824]
  kernel_rfl
theorem h_p2ft (w : World) : PP2 ((w.withFollow "special-get-raises" true).withFollow "comprehension-iter-twice" false) := by
  unfold PP2
  rewrite [PySem.W.Fast.te10110043849684766642, PySem.W.Fast.te14364793385576792824]
  kernel_rfl
theorem h_p2tf (w : World) : PP2 ((w.withFollow "special-get-raises" false).withFollow "comprehension-iter-twice" true) := by
  unfold PP2
  rewrite [PySem.W.Fast.te10110043849684766642, PySem.W.Fast.te14364793385576792824]
  kernel_rfl
theorem h_p2tt (w : World) : PP2 ((w.withFollow "special-get-raises" true).withFollow "comprehension-iter-twice" true) := by
  unfold PP2
  rewrite [PySem.W.Fast.te10110043849684766642, PySem.W.Fast.te14364793385576792824]
  kernel_rfl
theorem h_p2 (w : World) : (fun os => segRunT treeTable tPW w 34 tAnn 1 1253 (st1 w os) (piecesOf tl2 tEnv tCE ps1 tBS)) = fun os => some (Flow.next, st2 w os, tCE, ps2) := byRow2 (P := PP2) "comprehension-iter-twice" (fun w => byRow2 (P := fun w => PP2 (w.withFollow "comprehension-iter-twice" false)) "special-get-raises" h_p2ff h_p2ft w) (fun w => byRow2 (P := fun w => PP2 (w.withFollow "comprehension-iter-twice" true)) "special-get-raises" h_p2tf h_p2tt w) w
theorem h_p3 (w : World) : (fun os => segRunT treeTable tPW w 34 tAnn 1 1125 (st2 w os) (piecesOf tl3 tEnv tCE ps2 tBS)) = fun os => some (Flow.next, st3 w os, tCE, ps3) := by
  rewrite [PySem.W.Fast.te10110043849684766642, PySem.W.Fast.te14364793385576792824]
  kernel_rfl
theorem h_p4 (w : World) : (fun os => segRunT treeTable tPW w 34 tAnn 1 1278 (st3 w os) (piecesOf tl4 tEnv tCE ps3 tBS)) = fun os => some (Flow.next, st4 w os, tCE, ps4) := by
  rewrite [PySem.W.Fast.te10110043849684766642, PySem.W.Fast.te14364793385576792824]
  kernel_rfl
theorem h_p5 (w : World) : (fun os => segRunT treeTable tPW w 34 tAnn 1 1578 (st4 w os) (piecesOf tl5 tEnv tCE ps4 tBS)) = fun os => some (Flow.next, st5 w os, tCE, ps5) := by
  rewrite [PySem.W.Fast.te10110043849684766642, PySem.W.Fast.te14364793385576792824]
  kernel_rfl
theorem h_p6 (w : World) : (fun os => segRunT treeTable tPW w 34 tAnn 1 1184 (st5 w os) (piecesOf tl6 tEnv tCE ps5 tBS)) = fun os => some (Flow.next, st6 w os, tCE, ps6) := by
  rewrite [PySem.W.Fast.te10110043849684766642, PySem.W.Fast.te14364793385576792824]
  kernel_rfl
theorem h_fin (w : World) : (fun os => topRun treeTable tPW w 34 tAnn 2 (st6 w os).abs (Thread.mk (doneF .next) tCE ps6 tBS)) = fun os => some (shF w os) := by
  rewrite [PySem.W.Fast.te14082659384304107361, PySem.W.Fast.te14364793385576792824]
  kernel_rfl
end
section
open PySem PySem.W PyProof.Rows PySem.Spec PySem.Calls
theorem h_body : behindTheImports tPW = tl1 ++ (tl2 ++ (tl3 ++ (tl4 ++ (tl5 ++ (tl6 ++ []))))) := by kernel_rfl
theorem h_run (w : World) (os : OsState) : topRun treeTable tPW w 34 tAnn (12 + (1 + (197 + (1253 + (1125 + (1278 + (1578 + (1184 + 2)))))))) (sh0 w os) (topStub tPW) = some (shF w os) := by
  refine go_top (congrFun (h_pre w) os) ?_
  refine piece_block (congrFun (h_blk w) os) ?_
  have k7 : topRun treeTable tPW w 34 tAnn 2 (st6 w os).abs (restOf [] tEnv tCE ps6 tBS) = some (shF w os) := congrFun (h_fin w) os
  have k6 := piece_app (segRun_of (congrFun (h_p6 w) os)) k7
  have k5 := piece_app (segRun_of (congrFun (h_p5 w) os)) k6
  have k4 := piece_app (segRun_of (congrFun (h_p4 w) os)) k5
  have k3 := piece_app (segRun_of (congrFun (h_p3 w) os)) k4
  have k2 := piece_app (segRun_of (congrFun (h_p2 w) os)) k3
  have k1 := piece_app (segRun_of (congrFun (h_p1 w) os)) k2
  rw [← h_body] at k1
  exact k1
noncomputable abbrev tVQ : Program := { tPW with main := { tPW.main with body := [tM 44] } }
noncomputable abbrev tLQ : List Str := [zS "twin_re_1_fnmatch", zS "_special_chars_map", zS "twin_re_1_shlex", zS "UnsupportedOperation", zS "IOBase", zS "BufferedIOBase", zS "TextIOBase", zS "BytesIO", zS "StringIO", zS "join_path", zS "shlex", zS "split", zS "join_shlex", zS "_find_unsafe", zS "_sre", zS "deque", zS "_wall", zS "sorted_list_difference", zS "unorderable_list_difference", zS "escape", zS "_translate", zS "_whence", zS "_index", zS "_kind", zS "_fspath", zS "_check_arg_types", zS "isabs", zS "join", zS "dirname", zS "quote", zS "_law_names", zS "_law_words", zS "_law_takes", zS "_law_opened", zS "_law_said", zS "_law_apart"]
theorem h_size (w : World) : ((hp0 w.params).isNs mainGlobals && (#[] : Array GenState).size == 0, (hp0 w.params).objs.size, (hp0 w.params).nsMap mainGlobals "__annotations__") = (true, 34, tAnn) := by
  rewrite [PySem.W.Fast.te8920871248978507458]
  kernel_rfl
noncomputable abbrev tHK : Hook := kmHook tKf kAs (fun _ => by kernel_rfl) [77, 784]
theorem h_lk1 (w : World) : (fun os => (staticsOk (importedModules tPW.main.body) (hp0 w.params) (hpF w.params) && namesBound tPW (hpF w.params) && gensDone (shF w os) && laidKept (hp0 w.params) (hpF w.params))) = fun _ => true := by
  rewrite [PySem.W.Fast.te5923862056798008813]
  kernel_rfl
theorem h_lk2 (w : World) : (fun os => openSeen tVQ tLQ (importedModules tPW.main.body) (fun s => xlAt tVQ [] s && recOk (RowW.records PySem.Challenge.rw_ij0188_01.row.toRowW) s) true (shF w os)) = fun _ => openGood tVQ tLQ := by
  rewrite [PySem.W.Fast.te5923862056798008813, PySem.W.Fast.te4187177175401517315]
  kernel_rfl
theorem h_lk3 (w : World) : (fun os => tHK.obs (shF w os)) = fun _ => tHK.val w := by
  kernel_rfl
end
section
open PySem PySem.W PyProof.Rows PySem.Spec PySem.Calls
theorem h_left : LeftO tPW tVQ tLQ (fun s => xlAt tVQ [] s && recOk (RowW.records PySem.Challenge.rw_ij0188_01.row.toRowW) s) tHK.obs tHK.val 13344 :=
  LeftO.of_pieces (H₀ := hp0) (H₁ := hpF) h_open h_size h_run (by rfl) fun w => by
    funext os
    exact Prod.ext (congrFun (h_lk1 w) os) (Prod.ext (congrFun (h_lk2 w) os) (congrFun (h_lk3 w) os))
theorem and_t {a b : Bool} (h : a = true) (k : b = true) : (a && b) = true := by rw [h, k]; rfl
theorem filt_t {α : Type} {p : α → Bool} {a : α} {l : List α} (h : p a = false) (k : R.filterR p l = []) : R.filterR p (a :: l) = [] := by
  show @Bool.rec (fun _ => List α) (R.filterR p l) (a :: R.filterR p l) (p a) = []
  rw [h]; exact k
theorem lk_t {S : Bool} {B : List Str} {b : List Stmt} (hs : S = false) (hb : B = []) (h : Fast.tw8326940854005059898 { strict := false, foot := none, bare := [] } b = true) : Fast.tw8326940854005059898 { strict := S, foot := none, bare := B } b = true := by subst hs hb; exact h
theorem h_road : Fast.tw8326940854005059898 { strict := false, foot := none, bare := [] } PySem.Challenge.rw_ij0188_01.row.prog.main.body = true := by decide +kernel
theorem h_looks : Fast.tw12908688711261696721 PySem.Challenge.rw_ij0188_01.row.prog = true := by
  unfold Fast.tw12908688711261696721
  repeat' (first | with_reducible refine and_t ?_ ?_ | with_reducible refine lk_t ?_ ?_ h_road | with_reducible refine filt_t ?_ ?_)
  all_goals decide +kernel
theorem h_row : Fast.tw17960256430627541270 (Fast.tw2368527892694137696 PySem.Challenge.rw_ij0188_01) = true := by
  unfold Fast.tw17960256430627541270 Fast.tw2436336058641802641
  repeat' (with_reducible refine and_t ?_ ?_)
  · exact h_looks
  all_goals decide +kernel
theorem h_said : PySem.Challenge.rw_ij0188_01.wellSaid = true := by
  rewrite [Fast.te9446332074065402090]
  unfold Fast.tw9446332074065402090
  repeat' (with_reducible refine and_t ?_ ?_)
  · exact h_row
  all_goals decide +kernel
end
open PySem PySem.W PyProof.Rows
theorem filled : tKf = tKf ∧ PySem.Challenge.rw_ij0188_01.foot = PySem.Challenge.rw_ij0188_01.foot := by
  k_fill
  exact ⟨rfl, rfl⟩
open PySem PySem.W PyProof.Rows PySem.Spec PySem.Calls PySem.W.X
section
noncomputable abbrev prog : Program := PySem.Challenge.rw_ij0188_01.row.prog
noncomputable abbrev LL : List Str := tLQ
noncomputable abbrev loose : List Str := looseW tVQ LL ++ List.map (fun x => x.name) (recsOf tVQ) ++ List.map (fun x => x.fst) (litsOf tVQ) ++ List.map (fun x => x.name) (clssOf tVQ (looseW tVQ LL))
theorem ex1 {α0 : Type} {p : α0 → Prop} {P : Prop} (h : ∃ x0, p x0) (k : ∀ x0, p x0 → P) : P := Exists.elim h fun x0 h => k x0 h
theorem ex2 {α0 α1 : Type} {p : α0 → α1 → Prop} {P : Prop} (h : ∃ x0 x1, p x0 x1) (k : ∀ x0 x1, p x0 x1 → P) : P := Exists.elim h fun x0 h => Exists.elim h fun x1 h => k x0 x1 h
theorem ex3 {α0 α1 α2 : Type} {p : α0 → α1 → α2 → Prop} {P : Prop} (h : ∃ x0 x1 x2, p x0 x1 x2) (k : ∀ x0 x1 x2, p x0 x1 x2 → P) : P := Exists.elim h fun x0 h => Exists.elim h fun x1 h => Exists.elim h fun x2 h => k x0 x1 x2 h
theorem ex4 {α0 α1 α2 α3 : Type} {p : α0 → α1 → α2 → α3 → Prop} {P : Prop} (h : ∃ x0 x1 x2 x3, p x0 x1 x2 x3) (k : ∀ x0 x1 x2 x3, p x0 x1 x2 x3 → P) : P := Exists.elim h fun x0 h => Exists.elim h fun x1 h => Exists.elim h fun x2 h => Exists.elim h fun x3 h => k x0 x1 x2 x3 h
theorem ex5 {α0 α1 α2 α3 α4 : Type} {p : α0 → α1 → α2 → α3 → α4 → Prop} {P : Prop} (h : ∃ x0 x1 x2 x3 x4, p x0 x1 x2 x3 x4) (k : ∀ x0 x1 x2 x3 x4, p x0 x1 x2 x3 x4 → P) : P := Exists.elim h fun x0 h => Exists.elim h fun x1 h => Exists.elim h fun x2 h => Exists.elim h fun x3 h => Exists.elim h fun x4 h => k x0 x1 x2 x3 x4 h
theorem ex6 {α0 α1 α2 α3 α4 α5 : Type} {p : α0 → α1 → α2 → α3 → α4 → α5 → Prop} {P : Prop} (h : ∃ x0 x1 x2 x3 x4 x5, p x0 x1 x2 x3 x4 x5) (k : ∀ x0 x1 x2 x3 x4 x5, p x0 x1 x2 x3 x4 x5 → P) : P := Exists.elim h fun x0 h => Exists.elim h fun x1 h => Exists.elim h fun x2 h => Exists.elim h fun x3 h => Exists.elim h fun x4 h => Exists.elim h fun x5 h => k x0 x1 x2 x3 x4 x5 h
theorem ex10 {α0 α1 α2 α3 α4 α5 α6 α7 α8 α9 : Type} {p : α0 → α1 → α2 → α3 → α4 → α5 → α6 → α7 → α8 → α9 → Prop} {P : Prop} (h : ∃ x0 x1 x2 x3 x4 x5 x6 x7 x8 x9, p x0 x1 x2 x3 x4 x5 x6 x7 x8 x9) (k : ∀ x0 x1 x2 x3 x4 x5 x6 x7 x8 x9, p x0 x1 x2 x3 x4 x5 x6 x7 x8 x9 → P) : P := Exists.elim h fun x0 h => Exists.elim h fun x1 h => Exists.elim h fun x2 h => Exists.elim h fun x3 h => Exists.elim h fun x4 h => Exists.elim h fun x5 h => Exists.elim h fun x6 h => Exists.elim h fun x7 h => Exists.elim h fun x8 h => Exists.elim h fun x9 h => k x0 x1 x2 x3 x4 x5 x6 x7 x8 x9 h
theorem and2 {A0 A1 P : Prop} (h : A0 ∧ A1) (k : A0 → A1 → P) : P := k (h.1) (h.2)
theorem and3 {A0 A1 A2 P : Prop} (h : A0 ∧ A1 ∧ A2) (k : A0 → A1 → A2 → P) : P := k (h.1) (h.2.1) (h.2.2)
theorem and4 {A0 A1 A2 A3 P : Prop} (h : A0 ∧ A1 ∧ A2 ∧ A3) (k : A0 → A1 → A2 → A3 → P) : P := k (h.1) (h.2.1) (h.2.2.1) (h.2.2.2)
theorem and5 {A0 A1 A2 A3 A4 P : Prop} (h : A0 ∧ A1 ∧ A2 ∧ A3 ∧ A4) (k : A0 → A1 → A2 → A3 → A4 → P) : P := k (h.1) (h.2.1) (h.2.2.1) (h.2.2.2.1) (h.2.2.2.2)
theorem and6 {A0 A1 A2 A3 A4 A5 P : Prop} (h : A0 ∧ A1 ∧ A2 ∧ A3 ∧ A4 ∧ A5) (k : A0 → A1 → A2 → A3 → A4 → A5 → P) : P := k (h.1) (h.2.1) (h.2.2.1) (h.2.2.2.1) (h.2.2.2.2.1) (h.2.2.2.2.2)
theorem and7 {A0 A1 A2 A3 A4 A5 A6 P : Prop} (h : A0 ∧ A1 ∧ A2 ∧ A3 ∧ A4 ∧ A5 ∧ A6) (k : A0 → A1 → A2 → A3 → A4 → A5 → A6 → P) : P := k (h.1) (h.2.1) (h.2.2.1) (h.2.2.2.1) (h.2.2.2.2.1) (h.2.2.2.2.2.1) (h.2.2.2.2.2.2)
theorem and8 {A0 A1 A2 A3 A4 A5 A6 A7 P : Prop} (h : A0 ∧ A1 ∧ A2 ∧ A3 ∧ A4 ∧ A5 ∧ A6 ∧ A7) (k : A0 → A1 → A2 → A3 → A4 → A5 → A6 → A7 → P) : P := k (h.1) (h.2.1) (h.2.2.1) (h.2.2.2.1) (h.2.2.2.2.1) (h.2.2.2.2.2.1) (h.2.2.2.2.2.2.1) (h.2.2.2.2.2.2.2)
theorem and9 {A0 A1 A2 A3 A4 A5 A6 A7 A8 P : Prop} (h : A0 ∧ A1 ∧ A2 ∧ A3 ∧ A4 ∧ A5 ∧ A6 ∧ A7 ∧ A8) (k : A0 → A1 → A2 → A3 → A4 → A5 → A6 → A7 → A8 → P) : P := k (h.1) (h.2.1) (h.2.2.1) (h.2.2.2.1) (h.2.2.2.2.1) (h.2.2.2.2.2.1) (h.2.2.2.2.2.2.1) (h.2.2.2.2.2.2.2.1) (h.2.2.2.2.2.2.2.2)
theorem and11 {A0 A1 A2 A3 A4 A5 A6 A7 A8 A9 A10 P : Prop} (h : A0 ∧ A1 ∧ A2 ∧ A3 ∧ A4 ∧ A5 ∧ A6 ∧ A7 ∧ A8 ∧ A9 ∧ A10) (k : A0 → A1 → A2 → A3 → A4 → A5 → A6 → A7 → A8 → A9 → A10 → P) : P := k (h.1) (h.2.1) (h.2.2.1) (h.2.2.2.1) (h.2.2.2.2.1) (h.2.2.2.2.2.1) (h.2.2.2.2.2.2.1) (h.2.2.2.2.2.2.2.1) (h.2.2.2.2.2.2.2.2.1) (h.2.2.2.2.2.2.2.2.2.1) (h.2.2.2.2.2.2.2.2.2.2)
/-- everything of h stands in h' -/
noncomputable def Kp (h h' : Heap) : Prop := ∀ b o, h.get? b = some o → h'.get? b = some o
theorem Kp.refl (h : Heap) : Kp h h := fun _ _ e => e
theorem Kp.trans {a b c : Heap} (x : Kp a b) (y : Kp b c) : Kp a c := fun d o e => y d o (x d o e)
/-- a caller's ground: a function frame over the top -/
inductive Cx (w : World) (A : Around) (h : Heap) (c : Nat) : Prop
  | mk (dp un : Nat) (gd : Option (List Code)) (cn : Str) (cs : Scope) (L a : Addr) (ccd : Value) (cl : List (Str × Addr)) (outer : List Env) (A₀ : Around) (base h₀ : Heap) (m : Str → Option Value) (mean : ExcName → Option Value) (mg mb : Str → Option Value)
    (e : A = ktrTop dp un gd cn cs L a ccd cl outer) (B : Below A₀ base outer h₀) (F : Fr h₀ L h m) (X : (tKf w.params).In h₀) (T : Top topProg loose mean mg mb h₀) (hk : cs.kind = .function) (h1 : dp + c < 1000) (h2 : un + 10 * c + 1000 < 9900) : Cx w A h c
theorem leK {a b c : Nat} (h : a ≤ b) (e : Nat.ble b c = true) : a ≤ c := Nat.le_trans h (Nat.le_of_ble_eq_true e)
theorem ltS {a b k : Nat} (h : a < b) : a < b + k := Nat.lt_of_lt_of_le h (Nat.le_add_right b k)
theorem ltN9 {n : Nat} (k : Nat) : n < n + (k + 1) := Nat.lt_add_of_pos_right (Nat.succ_pos k)
theorem unK {u a b c a' b' c' : Nat} (h : u + a + b < c) (e : Nat.ble (a' + b' + c) (a + b + c') = true) : u + a' + b' < c' := by
  have := Nat.le_of_ble_eq_true e
  omega
theorem dpK {u a c a' c' : Nat} (h : u + a < c) (e : Nat.ble (a' + c) (a + c') = true) : u + a' < c' := by
  have := Nat.le_of_ble_eq_true e
  omega
theorem Cx.keeps {w : World} {A : Around} {h h' : Heap} {c : Nat} (x : Cx w A h c) (k : Kp h h') : Cx w A h' c := by
  obtain ⟨dp, un, gd, cn, cs, L, a, ccd, cl, outer, A₀, base, h₀, m, mean, mg, mb, e, B, F, X, T, hk, h1, h2⟩ := x
  exact ⟨dp, un, gd, cn, cs, L, a, ccd, cl, outer, A₀, base, h₀, m, mean, mg, mb, e, B, F.keeps k, X, T, hk, h1, h2⟩
theorem Cx.less {w : World} {A : Around} {h : Heap} {c c' : Nat} (x : Cx w A h c) (k : c' ≤ c) : Cx w A h c' := by
  obtain ⟨dp, un, gd, cn, cs, L, a, ccd, cl, outer, A₀, base, h₀, m, mean, mg, mb, e, B, F, X, T, hk, h1, h2⟩ := x
  exact ⟨dp, un, gd, cn, cs, L, a, ccd, cl, outer, A₀, base, h₀, m, mean, mg, mb, e, B, F, X, T, hk, by omega, by omega⟩
theorem room {dp un c : Nat} {gd : Option (List Code)} {cn : Str} {cs : Scope} {L a : Addr} {ccd : Value} {cl : List (Str × Addr)} {outer : List Env} (h : dp + (c + 1) < 1000) :
    (ktrTop dp un gd cn cs L a ccd cl outer).depth < recursionLimit := by show dp < 1000; omega
end
local macro_rules | `(tactic| walk_at "m_and") => `(tactic| ((iterate 12 (first | done | with_reducible assumption | apply And.right)); done))
local macro_rules | `(tactic| walk_at "m_lt") => `(tactic| first | walk_at "m_and" | (apply And.left; walk_at "m_and") | exact ltN9 _ | ((iterate 5 (first | done | with_reducible assumption | refine ltS ?_)); done))
local macro_rules | `(tactic| omega) => `(tactic| (k_whole; refine neN ?_; first | (refine Nat.ne_of_lt ?_; walk_at "m_lt") | (refine Nat.ne_of_gt ?_; walk_at "m_lt") | walk_at "m_lt" | (refine Ne.symm ?_; walk_at "m_lt") | fail "none"))
local macro_rules | `(tactic| omega) => `(tactic| first | (k_whole; refine' unK ?h9 ?e9; (case h9 => with_reducible assumption); (case e9 => exact rfl)) | (k_whole; refine' dpK ?h9 ?e9; (case h9 => with_reducible assumption); (case e9 => exact rfl)) | (k_whole; refine' leK ?h9 ?e9; (case h9 => with_reducible assumption); (case e9 => exact rfl)) | (k_whole; with_reducible exact Nat.le_of_ble_eq_true rfl) | fail "none")
section
section
open PySem.SeqAt
theorem isStr_at (k : Str) : ∀ {vs : List Value} {ns : List Str}, StrsAre vs ns → ∀ (j : Nat) (h1 : j < vs.length) (h2 : j < ns.length), isStrOf k vs[j] = (ns[j] == k)
  | _, _, .cons n t _, 0, _, _ => rfl
  | _, _, .cons n t r, j + 1, h1, h2 => isStr_at k r j (Nat.lt_of_succ_lt_succ h1) (Nat.lt_of_succ_lt_succ h2)
theorem sne_of_lt_idxOf {k : Str} : ∀ {ns : List Str} {j : Nat}, j < ns.idxOf k → ∀ (h2 : j < ns.length), (ns[j] == k) = false
  | n :: r, 0, h, _ => by
    by_cases e : n = k
    · subst e; simp at h
    · simpa using e
  | n :: r, j + 1, h, h2 => by
    by_cases e : n = k
    · subst e; simp at h
    · have hb : (n == k) = false := by simpa using e
      have h' : j < r.idxOf k := by
        rw [List.idxOf_cons, hb] at h
        exact Nat.lt_of_succ_lt_succ h
      exact sne_of_lt_idxOf h' (Nat.lt_of_succ_lt_succ h2)
section
variable {prog : Program} {w : World} {A : Around} {E : Value → Shared → Prop} {s : Shared} {h₀ : Heap} {L : Addr} {m : Str → Option Value} {news : List (Addr × Obj)}
theorem index_list_strs {l : Addr} {vs : List Value} {ns : List Str} {k : Str} {t : Tok} {Q : Value → Shared → Prop} (hl : s.heap.IsList l vs.toArray) (hi : StrsAre vs ns)
    (hlen' : ns.length < 1000000) (hk : k ∈ ns) (h : Q (.int (ns.idxOf k : Nat) s.toks) { s with toks := s.toks + 1 }) :
    wpAny (model prog w) A (call (.builtin "list.index") [.ref l, .str k t]) Q E s := by
  obtain ⟨⟨cls, dd, data, sl⟩, ho, hc, n, hd⟩ := id hl
  simp only at hc hd
  subst hc hd
  have hlen := hi.length
  have hj : ns.idxOf k < ns.length := List.idxOf_lt_length_iff.mpr hk
  refine call_meets PySem.F.slot_list_index ⟨_, ho, rfl⟩ PySem.F.entry_list_index (PySem.F.args_list_index_2 _ _)
    (list_indexAt l vs.toArray n dd sl (.str k t) (isStrOf k) (ns.idxOf k) (by simpa [hlen] using hj) (by omega) ?_ ?_) ⟨ho, fun y hy => (eq_isStrOf k t hi y (by simpa using hy)).at _ _, h⟩
  · show isStrOf k vs[ns.idxOf k] = true
    rw [isStr_at k hi _ (by omega) hj]
    simpa using List.getElem_idxOf hj
  · intro j hjs hlt
    show isStrOf k vs[j] = false
    rw [isStr_at k hi j (by simpa using hjs) (by omega)]
    exact sne_of_lt_idxOf hlt _
end
end
section
open PySem.SeqAt
theorem ret_bool {s : Shared} {Q : Value → Shared → Prop} {b b' : Bool} {h' : Heap} {tk' : Nat} (h : ∀ h' tk', Kp s.heap h' → Q (.bool b) { s with heap := h', toks := tk' }) (e : b = b') (k : Kp s.heap h') :
    Q (.bool b') { s with heap := h', toks := tk' } := by subst e; exact h _ _ k
theorem kp_of {h g h' : Heap} {L : Addr} {m : Str → Option Value} (G : GSub h g (List.map (fun x : Addr × Obj => x.1) [])) (F : Fr g L h' m) : Kp h h' := fun b o e => F.keep b o (G b o e (by simp))
section
variable {prog : Program} {w : World} {A : Around} {E : Value → Shared → Prop} {s : Shared}
theorem item_bools {value slice : PySem.Expr} {l : Addr} {vs : List Value} {bs : List Bool} {k : Int} {u : Tok} {Q : Value → Shared → Prop} (hl : s.heap.IsList l vs.toArray) (hb : vs = bs.map Value.bool)
    (h0 : 0 ≤ k) (h1 : k < (bs.length : Int)) (hfit : k < 2 ^ 63) (h : Q (.bool (bs.getD k.toNat false)) s)
    (hs : subscripted slice false (.ref l) (.int k u) = operate [.ref l, .int k u] (getItem (.ref l) (.int k u)) := by with_unfolding_all rfl) :
    wpAny (model prog w) A (subscriptTail value slice (.ref l) (.int k u)) Q E s := by
  have hk : k.toNat < bs.length := by omega
  exact tail_any hl.typeIs slot_list_getitem.lookup (wpAny_getItem_list hl h0 hfit (by subst hb; simp [List.getD_eq_getElem?_getD, hk]) h) hs
end
noncomputable def menu : List Str := [Str.ofString "a*", Str.ofString "*b", Str.ofString "?", Str.ofString "[!a]*", Str.ofString "* *", Str.ofString "'*", Str.ofString "??", Str.ofString "*"]
noncomputable def saidL (name : Str) : List Bool := [Txt.slice name none (some 1) == Str.ofString "a", Txt.slice name (some (-1)) none == Str.ofString "b", ((name.length : Int) == 1), 
  !([Str.ofString "", Str.ofString "a"].any fun x => x == Txt.slice name none (some 1)), !(Builtin.Str.occurrences name (Str.ofString " ") 0 name.length 1).isEmpty,
  Txt.slice name none (some 1) == Str.ofString "'", ((name.length : Int) == 2), true]
noncomputable def saidS (glob name : Str) : Bool := (saidL name).getD (menu.idxOf glob) false
end
end
section
section
open PySem.SeqAt
theorem kp_mem {h h' : Heap} {news : List (Addr × Obj)} (D : Mem h h' [] news) : Kp h h' := fun b o e => D.keep b o e (by simp [away])
noncomputable def boundApp (l : Addr) : Obj := { cls := .type "builtin_function_or_method", data := .fields #[.builtin "list.append", .ref l] }
theorem md_get {w : World} {A : Around} {R : Result → Shared → Prop} {l : Addr} {its : Array Value} {n : Nat} {h : Heap} {g : Array GenState} {d : Drawn} {tk : Nat} {os : OsState}
   (ho : h.get? l = some ⟨.type "list", none, .seq its n, #[]⟩) (hq : R (.ok (.ret (.ref h.objs.size))) ⟨h.push (boundApp l), g, d, tk, os⟩) : codeAny (model Mine.prog w) A (.call (.builtin "method_descriptor.__get__") ⟨[.builtin "list.append", .ref l, .type "list"], []⟩) R ⟨h, g, d, tk, os⟩ := by
  have hT : (⟨h, g, d, tk, os⟩ : Shared).TypeIs (.ref l) "list" := ⟨_, ho, rfl⟩
  have f5 : typeOf (.builtin "list.append") = pure (.type "method_descriptor") := by show builtinType _ = _; rw [builtinType_eq_fast]; kernel_rfl
  have g1 : Slot "method_descriptor" "__get__" "method_descriptor.__get__" := .of (owner := "method_descriptor") (n := "__get__") (by rw [typeLookup_type, builtinLookup_eq_fast]; kernel_rfl) (by decide +kernel) (by decide +kernel) (by decide +kernel) (by first | exact .inl (by decide +kernel) | exact .inr (by decide +kernel)) (by rw [isSubtype_type]; kernel_rfl)
  have f6 : isSubtype (.type "list") (.type (".".intercalate ("list.append".cutAt '.').dropLast)) = pure true := by
    rw [show (".".intercalate ("list.append".cutAt '.').dropLast) = "list" by decide +kernel, isSubtype_type]; kernel_rfl
  refine codeAny_call_builtin g1.plain (entryFor_of_tree (b := Builtin.«method_descriptor.__get__») (by kernel_rfl)) (g1.check _ _ _ _ _ _ _ _ f5 (by unfold argsOk; kernel_rfl) ?_)
  unfold Builtin.«method_descriptor.__get__»
  repeat (any_goals (first | assumption | wp_step))
theorem list_ga {w : World} {A : Around} {Q E : Value → Shared → Prop} {l : Addr} {its : Array Value} {n : Nat} {h : Heap} {g : Array GenState} {d : Drawn} {tk : Nat} {os : OsState} {u : Tok}
   (ho : h.get? l = some ⟨.type "list", none, .seq its n, #[]⟩) (hq : Q (.ref h.objs.size) ⟨h.push (boundApp l), g, d, tk, os⟩) : wpAny (model Mine.prog w) A (call (.builtin "list.__getattribute__") [.ref l, .str (Str.ofString "append") u]) Q E ⟨h, g, d, tk, os⟩ := by
  have hT : (⟨h, g, d, tk, os⟩ : Shared).TypeIs (.ref l) "list" := ⟨_, ho, rfl⟩
  have f4 : typeLookup (.type "list") "append" = pure (some (.builtin "list.append")) := by rw [typeLookup_type, builtinLookup_eq_fast]; kernel_rfl
  have f5 : typeOf (.builtin "list.append") = pure (.type "method_descriptor") := by show builtinType _ = _; rw [builtinType_eq_fast]; kernel_rfl
  have g2 : typeLookup (.type "method_descriptor") "__get__" = pure (some (.builtin "method_descriptor.__get__")) := by rw [typeLookup_type, builtinLookup_eq_fast]; kernel_rfl
  have g3 : typeLookup (.type "method_descriptor") "__set__" = pure none := by rw [typeLookup_type, builtinLookup_eq_fast]; kernel_rfl
  have g4 : typeLookup (.type "method_descriptor") "__delete__" = pure none := by rw [typeLookup_type, builtinLookup_eq_fast]; kernel_rfl
  refine wpAny_call (codeAny_call_builtin F.slot_list_getattribute.plain F.entry_list_ga (F.slot_list_getattribute.check _ _ _ _ _ _ _ _ hT (F.args_list_getattribute_2 _ _) ?_))
  have key : ∀ (R : Fin → Shared → Prop) (E : Value → Shared → Prop), R (.done (.ret (.ref h.objs.size))) ⟨h.push (boundApp l), g, d, tk, os⟩ → wpAny (model Mine.prog w) (A.in1) (Builtin.«object.__getattribute__» ⟨[.ref l, .str (Str.ofString "append") u], []⟩) R E ⟨h, g, d, tk, os⟩ := by
    intro R E hR
    unfold Builtin.«object.__getattribute__»
    repeat (any_goals (first | assumption | wp_step))
    refine md_get ho ?_
    repeat (any_goals (first | assumption | wp_step))
  exact key _ _ hq
theorem getAttr_append {w : World} {A : Around} {Q E : Value → Shared → Prop} {l : Addr} {its : Array Value} {n : Nat} {h : Heap} {g : Array GenState} {d : Drawn} {tk : Nat} {os : OsState}
   (ho : h.get? l = some ⟨.type "list", none, .seq its n, #[]⟩)
   (hq : ∀ a h' tk', Kp h h' → h.get? a = none → h'.get? a = some (boundApp l) → Q (.ref a) ⟨h', g, d, tk', os⟩) : wpAny (model Mine.prog w) A (getAttr (.ref l) (Str.ofString "append") true) Q E ⟨h, g, d, tk, os⟩ := by
  have hT : (⟨h, g, d, tk, os⟩ : Shared).TypeIs (.ref l) "list" := ⟨_, ho, rfl⟩
  have f2 := F.slot_list_getattribute.lookup
  have f3 := F.slot_list_getattribute.bind (.ref l)
  unfold getAttr getAttrBy
  iterate 27 (first | assumption | wp_step)
  refine list_ga ho ?_
  repeat (any_goals (first | assumption | wp_step))
  exact hq _ _ _ (fun b o e => Heap.get?_push_of_some _ e) (Heap.get?_none_of_le (Nat.le_refl _)) (Heap.get?_push_size _ rfl)
theorem call_boundApp {w : World} {A : Around} {Q E : Value → Shared → Prop} {a l : Addr} {x : Value} {its : Array Value} {n : Nat} {h : Heap} {g : Array GenState} {d : Drawn} {tk : Nat} {os : OsState}
   (hsz : its.size ≤ sizeLine) (ho : h.get? a = some (boundApp l)) (hl : h.get? l = some ⟨.type "list", none, .seq its n, #[]⟩) (k : ∀ h', Heap.SameBut l h h' → h'.get? l = some (listOf (its.push x) (n + 1)) → Q .none ⟨h', g, d, tk, os⟩) : wpAny (model Mine.prog w) A (call (.ref a) [x]) Q E ⟨h, g, d, tk, os⟩ := by
  have hT : (⟨h, g, d, tk, os⟩ : Shared).TypeIs (.ref l) "list" := ⟨_, hl, rfl⟩
  have q1 : isSubtype (.type "list") (.type "module") = pure false := by rw [isSubtype_type]; kernel_rfl
  have q2 : isSubtype (.type "list") (.type "type") = pure false := by rw [isSubtype_type]; kernel_rfl
  refine wpAny_call (codeAny_of_tree ?_)
  show wpAny _ _ (callAny (.ref a) _) _ _ _
  refine wpAny_bind (wpAny_load ho ?_)
  dsimp only [boundApp]
  repeat (any_goals (first | assumption | wp_step))
  refine ⟨plainId_quiet F.slot_list_append.plain _, codeAny_builtin F.entry_list_append ?_⟩
  rw [Around.under_plainId F.slot_list_append.plain _]
  exact AutoListH.list_append_list_val_0 l its n x hsz Mine.prog w A (wants Q E) ⟨h, g, d, tk, os⟩ ⟨hl, k _ (Heap.SameBut.update ..) (by rw [Heap.get?_update_self _ hl (by rw [mapSeq_push]; rfl), mapSeq_push])⟩
section
variable {w : World} {A : Around} {E : Value → Shared → Prop} {s : Shared} {h₀ : Heap} {L : Addr} {m : Str → Option Value} {news news' : List (Addr × Obj)} {Q : Value → Shared → Prop}
theorem news_more {h h' : Heap} {a : Addr} {o : Obj} (F : Fr h₀ L h m) (N : News h₀ L h news) (k : Kp h h') (hn : h.get? a = none) (e : h'.get? a = some o) : News h₀ L h' ((a, o) :: news) := by
  intro p hp
  rcases List.mem_cons.mp hp with rfl | hp
  · refine ⟨e, ?_, ?_⟩
    · rintro rfl; obtain ⟨o', _, _, ho, _⟩ := F.ns; rw [hn] at ho; cases ho
    · cases q : h₀.get? a with
      | none => rfl
      | some o' => have := F.keep _ _ q; rw [hn] at this; cases this
  · exact ⟨k _ _ (N p hp).1, (N p hp).2⟩
theorem ne_of_fresh {h : Heap} {a : Addr} (N : News h₀ L h news) (hn : h.get? a = none) : ∀ p ∈ news, p.1 ≠ a := fun p hp e => by have := (N p hp).1; rw [e, hn] at this; cases this
theorem getAttrApp_K {l : Addr} {its : Array Value} {n : Nat} (F : Fr h₀ L s.heap m) (N : News h₀ L s.heap news) (hm : (l, listOf its n) ∈ news)
    (h : ∀ a h' tk', Fr h₀ L h' m → News h₀ L h' ((a, boundApp l) :: news) → GnNe a news → Q (.ref a) { s with heap := h', toks := tk' }) :
    wpAny (model Mine.prog w) A (getAttr (.ref l) (Str.ofString "append") true) Q E s :=
  getAttr_append (N _ hm).1 fun a h' tk' k hn e => h a h' tk' (F.keeps k) (news_more F N k hn e) (gnNe_of (ne_of_fresh N hn))
theorem callApp_K {a D : Addr} {x : Value} {its : Array Value} {n : Nat} (F : Fr h₀ L s.heap m) (N : News h₀ L s.heap news) (ha : (a, boundApp D) ∈ news) (U : Upd D (listOf its n) (listOf (its.push x) (n + 1)) news news')
    (h : ∀ h', Fr h₀ L h' m → News h₀ L h' news' → Q .none { s with heap := h' }) (hsz : its.size ≤ sizeLine := by size_fits) : wpAny (model Mine.prog w) A (call (.ref a) [x]) Q E s := by
  obtain ⟨pre, post, rfl, rfl, p1, p2⟩ := U.split
  have z := N (D, listOf its n) (List.mem_append.mpr (.inr (.head _)))
  exact call_boundApp hsz (N _ ha).1 z.1 fun h' hs ho' => h h' (F.change hs z.2.1 z.2.2) (news_set N p1 p2 hs ho')
end
end
section
open PySem.SeqAt
section
variable {M : Model} {A : Around} {E : Value → Shared → Prop} {s : Shared} {env : Env} {pos : Pos} {first : List Value} {Q : Value → Shared → Prop}
theorem callWith_B {q l : Addr} {e : PySem.Expr} {rest : List PySem.Expr} {h₀ : Heap} {L : Addr} {news : List (Addr × Obj)} (_N : News h₀ L s.heap news) (_q : (q, boundApp l) ∈ news)
    (h : wpAny M A (spliced (backTo pos (starEach (e :: rest) env))) (fun vs s₁ => s₁.heap.get? q = some (boundApp l) ∧ wpAny M A (call (.ref q) (first ++ vs)) Q E s₁) E s)
    (he : starEach (e :: rest) env = (false, eval e env) :: starEach rest env := by rfl) (hplain : (backTo pos (starEach rest env)).any (·.1) = false := by rfl) :
    wpAny M A (callWith pos (.ref q) first (backTo pos (starEach (e :: rest) env)) []) Q E s := by
  rw [he] at h ⊢
  refine callWith_of (P := fun h => h.get? q = some (boundApp l)) (by show ((false || (backTo pos (starEach rest env)).any (·.1)) || false) = false; rw [hplain]; rfl) (fun h X => ?_) (evalArgs_plain h)
  exact ⟨.machine, .inr (.inl rfl), (Looks.ld (part := none) X).andThen .now⟩
end
end
end
section
open PySem.SeqAt
noncomputable def es65 : List DictEntry := [⟨40, .int 40 398, .str (Str.ofString "\\(") 402⟩, ⟨41, .int 41 404, .str (Str.ofString "\\)") 408⟩, ⟨91, .int 91 410, .str (Str.ofString "\\[") 414⟩, ⟨93, .int 93 416, .str (Str.ofString "\\]") 420⟩, ⟨123, .int 123 422, .str (Str.ofString "\\{") 426⟩, ⟨125, .int 125 428, .str (Str.ofString "\\}") 432⟩, ⟨63, .int 63 434, .str (Str.ofString "\\?") 438⟩, ⟨42, .int 42 440, .str (Str.ofString "\\*") 444⟩, ⟨43, .int 43 446, .str (Str.ofString "\\+") 450⟩, ⟨45, .int 45 452, .str (Str.ofString "\\-") 456⟩, ⟨124, .int 124 458, .str (Str.ofString "\\|") 462⟩, ⟨94, .int 94 464, .str (Str.ofString "\\^") 468⟩, ⟨36, .int 36 470, .str (Str.ofString "\\$") 474⟩, ⟨92, .int 92 476, .str (Str.ofString "\\\\") 480⟩, ⟨46, .int 46 482, .str (Str.ofString "\\.") 486⟩, ⟨38, .int 38 488, .str (Str.ofString "\\&") 492⟩, ⟨126, .int 126 494, .str (Str.ofString "\\~") 498⟩, ⟨35, .int 35 500, .str (Str.ofString "\\#") 504⟩, ⟨32, .int 32 506, .str (Str.ofString "\\ ") 510⟩, ⟨9, .int 9 512, .str (Str.ofString "\\\t") 516⟩, ⟨10, .int 10 518, .str (Str.ofString "\\\n") 522⟩, ⟨13, .int 13 524, .str (Str.ofString "\\\x0d") 528⟩, ⟨11, .int 11 530, .str (Str.ofString "\\\x0b") 534⟩, ⟨12, .int 12 536, .str (Str.ofString "\\\x0c") 540⟩]
section
variable {w : World} {A : Around} {E : Value → Shared → Prop} {s : Shared}
theorem map65 (KX : (tKf w.params).In s.heap) : ∃ f, s.heap.MapOf (intKind Mine.prog w) 65 f ∧ f 97 = none ∧ f 98 = none ∧ f 39 = none ∧ ∃ t, f 32 = some (.str (Str.ofString "\\ ") t) := by
  have ho := KX 65 { cls := .type "dict", data := .dict es65.toArray 24 } (by kernel_rfl)
  refine ⟨_, ⟨_, _, _, ho, ⟨rfl, rfl, rfl⟩, rfl, ?_, fun k => rfl⟩, (by decide +kernel : findBy Value.isInt es65.toArray 97 = none), (by decide +kernel : findBy Value.isInt es65.toArray 98 = none), (by decide +kernel : findBy Value.isInt es65.toArray 39 = none), 510, (by decide +kernel : findBy Value.isInt es65.toArray 32 = some (.str (Str.ofString "\\ ") 510))⟩
  intro e he
  have h2 : es65.all (fun e => match e.key with | .int k _ => decide (e.hash = hashInt k) | _ => false) = true := by decide +kernel
  have := List.all_eq_true.mp h2 e (by simpa using he)
  split at this
  · rename_i k t hk
    exact ⟨k, by rw [hk]; simp [intKind, Value.isInt], of_decide_eq_true this⟩
  · cases this
open PySem.Builtin.Str in
theorem lookup_miss {f : Int → Option Value} {d : Addr} {c : Nat} {Q : Mapped → Shared → Prop} (hh : A.handled = none) (hd : (d == sysModules) = false) (hm : s.heap.MapOf (intKind Mine.prog w) d f) (hv : f c = none)
    (h : ∀ h' tk', Kp s.heap h' → Q .keep { s with heap := h', toks := tk' }) : wpAny (model Mine.prog w) A (tableLookup (.ref d) c) Q E s := by
  unfold tableLookup
  refine wpAny_bind (wpAny_attempt (wpAny_bind (wpAny_mkInt ?_)))
  refine wpAny_getItem_missing_of (knd := intKind Mine.prog w) (k := (c : Int)) (by simp [intKind, Value.isInt]) hd hh hm hv fun h' e hx => ?_
  obtain ⟨ob, tp, he, hcls, _⟩ := hx.there
  have hT : (⟨h', s.gens, s.drawn, s.toks + 1 + 1, s.os⟩ : Shared).TypeIs (.ref e) "KeyError" := ⟨_, he, hcls⟩
  refine wpAny_bind (wpAny_isInstance (b := true) hT (by rw [isSubtype_type]; kernel_rfl) ?_)
  simp only [if_true]
  exact wpAny_bind (wpAny_rule (wpAny_pure (h _ _ hx.keeps)))
open PySem.Builtin.Str in
theorem lookup_text {f : Int → Option Value} {d : Addr} {c : Nat} {x : Str} {t : Tok} {Q : Mapped → Shared → Prop} (hd : (d == sysModules) = false) (hm : s.heap.MapOf (intKind Mine.prog w) d f) (hv : f c = some (.str x t))
    (h : ∀ tk', Q (.text x) { s with toks := tk' }) : wpAny (model Mine.prog w) A (tableLookup (.ref d) c) Q E s := by
  unfold tableLookup
  refine wpAny_bind (wpAny_attempt (wpAny_bind (wpAny_mkInt ?_)))
  refine wpAny_getItem_of (knd := intKind Mine.prog w) (k := (c : Int)) (by simp [intKind, Value.isInt]) hm hv ?_
  dsimp only
  have hT : (⟨s.heap, s.gens, s.drawn, s.toks + 1 + 1, s.os⟩ : Shared).TypeIs (.str x t) "str" := typeIs_str _ _ _
  have q1 : isSubtype (.type "str") (.type "int") = pure false := by rw [isSubtype_type]; kernel_rfl
  have q2 : isSubtype (.type "str") (.type "str") = pure true := by rw [isSubtype_type]; kernel_rfl
  repeat (any_goals (first | assumption | wp_step))
  all_goals (try exact h _)
open PySem.Builtin.Str in
theorem translate_keep {c : Nat} {t : Tok} {f : Int → Option Value} {d : Addr} {Q : Value → Shared → Prop} (hh : A.handled = none) (hd : (d == sysModules) = false) (hm : s.heap.MapOf (intKind Mine.prog w) d f) (hv : f c = none) (hc : c < 128)
    (h : ∀ t' h' tk', Kp s.heap h' → Q (.str (Str.mk #[c]) t') { s with heap := h', toks := tk' }) : wpAny (model Mine.prog w) A (call (.builtin "str.translate") [.str (Str.mk #[c]) t, .ref d]) Q E s := by
  refine wpAny_call_entry F.slot_str_translate (typeIs_str _ _ _) F.entry_str_translate ?_ (F.args_str_translate_2 _ _)
  unfold Builtin.«str.translate»
  repeat (any_goals (first | assumption | ((with_reducible show wpAny _ _ (tableLookup _ _) _ _ _); refine lookup_miss (c := c) hh hd hm hv fun h' tk' k => ?_) | wp_step))
  exact ⟨_, rfl, h _ _ _ k⟩
open PySem.Builtin.Str in
theorem translate_text {t t0 : Tok} {f : Int → Option Value} {d : Addr} {Q : Value → Shared → Prop} (hd : (d == sysModules) = false) (hm : s.heap.MapOf (intKind Mine.prog w) d f) (hv : f 32 = some (.str (Str.mk #[92, 32]) t0))
    (h : ∀ t' tk', Q (.str (Str.mk #[92, 32]) t') { s with toks := tk' }) : wpAny (model Mine.prog w) A (call (.builtin "str.translate") [.str (Str.mk #[32]) t, .ref d]) Q E s := by
  refine wpAny_call_entry F.slot_str_translate (typeIs_str _ _ _) F.entry_str_translate ?_ (F.args_str_translate_2 _ _)
  unfold Builtin.«str.translate»
  repeat (any_goals (first | assumption | ((with_reducible show wpAny _ _ (tableLookup _ _) _ _ _); refine lookup_text (c := 32) (x := Str.mk #[92, 32]) hd hm hv fun tk' => ?_) | wp_step))
  exact ⟨_, rfl, h _ _⟩
variable {h₀ : Heap} {L : Addr} {m : Str → Option Value} {news news' : List (Addr × Obj)}
theorem getMethod_translate {x : Str} {t : Tok} {pl : Sem Bool} {Q : Value × List Value → Shared → Prop} {M : Model} (h : Q (.builtin "str.translate", [.str x t]) s) : wpAny M A (getMethod (.str x t) (Str.ofString "translate") pl) Q E s := by
  with_reducible exact GM.of (.str x t) (typeIs_str _ _ _) F.slot_str_translate F.type_str_translate GM.noRef h
theorem trans_K {x : Str} {c : Nat} {t : Tok} {Q : Value → Shared → Prop} (F : Fr h₀ L s.heap m) (N : News h₀ L s.heap news) (KX : (tKf w.params).In h₀) (hh : A.handled = none) (hx : x = Str.mk #[c]) (hc : c = 97 ∨ c = 98 ∨ c = 39)
    (h : ∀ t' h' tk', Fr h₀ L h' m → News h₀ L h' news → Q (.str (Str.mk #[c]) t') { s with heap := h', toks := tk' }) : wpAny (model Mine.prog w) A (call (.builtin "str.translate") [.str x t, .ref 65]) Q E s := by
  subst hx
  obtain ⟨f, hm, e1, e2, e3, _⟩ := map65 (s := s) (KX.keeps F.keep)
  refine translate_keep hh (by decide) hm ?_ (by omega) fun t' h' tk' k => h t' h' tk' (F.keeps k) (N.grown k)
  rcases hc with rfl | rfl | rfl <;> assumption
theorem trans_K2 {x : Str} {t : Tok} {Q : Value → Shared → Prop} (F : Fr h₀ L s.heap m) (KX : (tKf w.params).In h₀) (hx : x = Str.mk #[32])
    (h : ∀ t' tk', Q (.str (Str.ofString "\\ ") t') { s with toks := tk' }) : wpAny (model Mine.prog w) A (call (.builtin "str.translate") [.str x t, .ref 65]) Q E s := by
  subst hx
  obtain ⟨f, hm, _, _, _, t0, e⟩ := map65 (s := s) (KX.keeps F.keep)
  have q : Str.ofString "\\ " = Str.mk #[92, 32] := by decide +kernel
  rw [q] at e h
  exact translate_text (by decide) hm e h
end
inductive PartsAre (S : Addr) : List Value → List (Option Str) → Prop
  | nil : PartsAre S [] []
  | star {vs ps} : PartsAre S vs ps → PartsAre S (.ref S :: vs) (none :: ps)
  | str {x : Str} {t : Tok} {vs ps} : PartsAre S vs ps → PartsAre S (.str x t :: vs) (some x :: ps)
theorem ret_list {s : Shared} {Q : Value → Shared → Prop} {g h' : Heap} {L P : Addr} {m : Str → Option Value} {its : Array Value} {n : Nat} {news : List (Addr × Obj)} {tk' : Nat} {R : List Value → Prop}
    (h : ∀ P vs n h' tk', Kp s.heap h' → s.heap.get? P = none → h'.get? P = some (listOf vs.toArray n) → R vs → Q (.ref P) { s with heap := h', toks := tk' })
    (G : GSub s.heap g (List.map (fun x : Addr × Obj => x.1) [])) (F : Fr g L h' m) (N : News g L h' news) (hm : (P, listOf its n) ∈ news) (hr : R its.toList) : Q (.ref P) { s with heap := h', toks := tk' } := by
  refine h P its.toList n h' tk' (kp_of G F) ?_ (N _ hm).1 hr
  cases q : s.heap.get? P with
  | none => rfl
  | some o => have := G _ _ q (by simp); rw [(N _ hm).2.2] at this; cases this
end
section
theorem plainAttrs_pat : PlainAttrs "re.Pattern" :=
  ⟨⟨"object.__getattribute__", by rw [typeLookup_type, builtinLookup_eq_fast]; kernel_rfl, by decide +kernel⟩, by rw [typeLookup_type, builtinLookup_eq_fast]; kernel_rfl⟩
theorem slot_pat_sub : Slot "re.Pattern" "sub" "re.Pattern.sub" :=
  .of (owner := "re.Pattern") (n := "sub") (by rw [typeLookup_type, builtinLookup_eq_fast]; kernel_rfl) (by decide +kernel) (by decide +kernel) (by decide +kernel)
    (by first | exact .inl (by decide +kernel) | exact .inr (by decide +kernel)) (by rw [isSubtype_type]; kernel_rfl)
theorem type_pat_sub : typeOf (.builtin "re.Pattern.sub") = pure (.type "method_descriptor") := by show builtinType _ = _; rw [builtinType_eq_fast]; kernel_rfl
noncomputable def obj63 : Obj := { cls := .type "re.Pattern", data := .fields #[.str (Str.ofString "([&~|])") 358, .int 32 393, .int 1 0, .none, .none, .ref 62, .int 0 0] }
noncomputable def SemOk {α : Type} (K : Frag) (S : Setting) (P : α → Prop) (t : Sem α) : Prop :=
  Sem.rec (motive := fun _ => Prop) P (fun _ => False) (fun _ => False) (fun _ => False) (fun _ _ i => i ()) (fun _ _ _ => False) (fun a _ _ i => (K.lookup a).elim False i) (fun _ _ _ _ _ => False) (fun _ _ i => ∀ a, i a) (fun _ _ _ => False) (fun _ _ i => i ()) (fun _ _ _ => False) (fun _ i => ∀ t, i t) (fun _ i => i S)
    (fun _ _ _ _ => False) (fun _ _ _ _ => False) (fun _ _ _ _ _ _ => False) (fun _ _ _ => False) (fun _ _ _ => False) (fun _ _ _ => False) (fun _ _ _ _ _ => False) (fun _ _ _ _ _ => False) (fun _ _ => False) (fun _ _ _ => False) (fun _ _ => False) (fun _ _ _ _ _ _ => False) t
theorem wp_of_semOk {α : Type} {K : Frag} {M : Model} {A : Around} {Q : α → Shared → Prop} {E : Value → Shared → Prop} {P : α → Prop} {g : Array GenState} {d : Drawn} {os : OsState} {h₀ : Heap} {t₀ : Nat} (X : K.In h₀)
    (q : ∀ a h' t', Kp h₀ h' → t₀ ≤ t' → P a → Q a ⟨h', g, d, t', os⟩) (t : Sem α) (e : SemOk K ⟨M.prog, M.w.params⟩ P t) : wpAny M A t Q E ⟨h₀, g, d, t₀, os⟩ := by
  intro Γ p _
  suffices z : ∀ (t : Sem α) (h : Heap) (tk : Nat), Kp h₀ h → t₀ ≤ tk → SemOk K ⟨M.prog, M.w.params⟩ P t → Sem.wp M Γ t (fun a _ => Q a) (fun a _ => E a) p ⟨h, g, d, tk, os⟩ from z t _ _ (fun _ _ e => e) (Nat.le_refl _) e
  intro t
  induction t with
  | pure b => intro h tk k l e; exact q _ _ _ k l e
  | rule _ k ih => intro h tk k l e; exact ih () h tk k l e
  | point _ k ih => intro h tk k l e; exact ih () h tk k l e
  | ask k ih => intro h tk k l e; exact ih _ h tk k l e
  | load a _ k ih =>
    intro h tk kp l e
    change (K.lookup a).elim False (fun o => SemOk K ⟨M.prog, M.w.params⟩ P (k o)) at e
    cases ho : K.lookup a with
    | none => rw [ho] at e; exact e.elim
    | some o => rw [ho] at e; exact ⟨o, kp _ _ (X _ _ ho), ih o h tk kp l e⟩
  | alloc o k ih => intro h tk kp l e; exact ih _ _ _ (fun b o e => Heap.get?_push_of_some _ (kp _ _ e)) l (e _)
  | fresh k ih => intro h tk kp l e; exact ih _ _ _ kp (Nat.le_succ_of_le l) (e _)
  | _ => intro _ _ _ _ e; exact e.elim
theorem search_ok : ∀ x ∈ menu, ∀ (P : Params) (u : Tok), SemOk (tKf P) ⟨Mine.prog, P⟩ (fun f => ∃ a, f = .done (.ret (.ref a))) (Builtin.«re.Pattern.search» ⟨[.ref 87, .str x u], []⟩) := by
  intro x hx P u
  simp only [menu, List.mem_cons, List.not_mem_nil, or_false] at hx
  rcases hx with rfl | rfl | rfl | rfl | rfl | rfl | rfl | rfl
  all_goals
    refine cast (α := ∀ a b : Addr, (fun f : Fin => ∃ a, f = .done (.ret (.ref a))) (.done (.ret (.ref b)))) (by kernel_rfl) fun a b => ⟨b, rfl⟩
theorem search_spec {w : World} {dp un : Nat} {fr : Option (List Env)} {gd : Option (List Code)} {Q E : Value → Shared → Prop} {x : Str} {u : Tok} {s : Shared} (hx : x ∈ menu)
   (KX : (tKf w.params).In s.heap) (hq : ∀ a h' tk', Kp s.heap h' → s.toks ≤ tk' → Q (.ref a) { s with heap := h', toks := tk' }) : wpAny (model Mine.prog w) {handled := none, depth := dp, frames := fr, guards := gd, units := un} (call (.ref 790) [.str x u]) Q E s := by
  obtain ⟨h, g, d, tk, os⟩ := s
  refine wpAny_call (codeAny_of_tree ?_)
  show wpAny _ _ (callAny (.ref 790) _) _ _ _
  refine Looks.here (r := .again (.builtin "re.Pattern.search" ⟨[.ref 87, .str x u], []⟩)) (Looks.of_peek KX (by kernel_rfl)) ?_
  refine ⟨Code.quiet_builtin _ (by decide +kernel), codeAny_builtin (entryFor_of_tree (b := Builtin.«re.Pattern.search») (by kernel_rfl)) ?_⟩
  refine wp_of_semOk KX (fun f h' t' k l e => ?_) _ (search_ok x hx _ u)
  obtain ⟨a, rfl⟩ := e
  exact hq a h' t' k l
section
open PySem.Builtin.Re
variable {w : World} {A : Around} {Q E : Value → Shared → Prop} {R : Fin → Shared → Prop} {f L : Addr} {fd : FuncData} {u : Tok} {h : Heap} {g : Array GenState} {d : Drawn} {tk : Nat} {os : OsState}
theorem sub_t (X : (tKf w.params).In h) : Looks (model Mine.prog w) h (reWholeTarget (.ref 63) (.str (Str.ofString "!a") u)) ⟨.ref 63, .str (Str.ofString "!a") u, ((match (zo62 w.params).data with | .seq xs _ => xs | _ => #[]).map reRawOf).map Int.toNat, #[33, 97], 0, 1, 0, 2⟩ := Looks.of_peek X (by kernel_rfl)
theorem sub1 (KX : (tKf w.params).In h) (ho : h.get? f = some { cls := .type "function", data := .func fd })
   (hR : R (.again (.builtin "re.Pattern.sub.loop" ⟨[.ref 63, .str (Str.ofString "!a") u, .ref f, rawInt 1, rawInt 0, rawInt 0, rawInt 0, rawInt 0, .bool false, .ref h.objs.size, .bool false], []⟩)) ⟨h.push { cls := .type "list", data := .seq #[] }, g, d, tk, os⟩) :
   wpAny (model Mine.prog w) A (Builtin.«re.Pattern.sub» ⟨[.ref 63, .ref f, .str (Str.ofString "!a") u], []⟩) R E ⟨h, g, d, tk, os⟩ := by
  have e1 : Looks (model Mine.prog w) h (reNamed "re.Pattern.sub" "sub" ["repl", "string", "count"] 2 [.ref f, .str (Str.ofString "!a") u] []) [some (.ref f), some (.str (Str.ofString "!a") u), none] := Looks.of_pure (by kernel_rfl)
  have tf : typeLookup (.type "function") "__call__" = pure (some (.builtin "function.__call__")) := by rw [typeLookup_type, builtinLookup_eq_fast]; kernel_rfl
  have e2 : Looks (model Mine.prog w) h (specialOf (.ref f) "__call__") (some (.builtin "function.__call__")) := (Looks.ld ho).andThen (Looks.of_pure tf)
  have e3 := sub_t (u := u) KX
  have e4 : Looks (model Mine.prog w) h (reNotHeld "re.Pattern.sub" (.str (Str.ofString "!a") u)) () := Looks.of_pure (by kernel_rfl)
  unfold Builtin.«re.Pattern.sub» reSubstitute
  repeat lk
  exact hR
theorem sub2 (KX : (tKf w.params).In h) (hL : h.get? L = some { cls := .type "list", data := .seq #[] })
   (hR : ∀ h' tk', (∀ b o, b ≠ L → h.get? b = some o → h'.get? b = some o) → R (.done (.ret (.str (Str.ofString "!a") tk))) ⟨h', g, d, tk', os⟩) :
   wpAny (model Mine.prog w) A (Builtin.«re.Pattern.sub.loop» ⟨[.ref 63, .str (Str.ofString "!a") u, .ref f, rawInt 1, rawInt 0, rawInt 0, rawInt 0, rawInt 0, .bool false, .ref L, .bool false], []⟩) R E ⟨h, g, d, tk, os⟩ := by
  have e3 := sub_t (u := u) KX
  have e5 : Looks (model Mine.prog w) h (reNextFound ⟨.ref 63, .str (Str.ofString "!a") u, ((match (zo62 w.params).data with | .seq xs _ => xs | _ => #[]).map reRawOf).map Int.toNat, #[33, 97], 0, 1, 0, 2⟩ (Int.toNat 0) false) none := Looks.of_peek KX (by kernel_rfl)
  unfold Builtin.«re.Pattern.sub.loop»
  repeat lk
  have hL2 : (h.update L (Obj.mapSeq fun x => x.push (Value.str { cps := #[33, 97].extract (Int.toNat 0) 2 } tk))).get? L = some (listOf #[Value.str { cps := #[33, 97].extract (Int.toNat 0) 2 } tk] 1) := Heap.get?_update_self _ hL rfl
  refine wpAny_update hL ?_
  refine wpAny_lookBehind hL2 rfl ?_
  repeat ((fail_if_success (with_reducible show wpAny _ _ (call _ _) _ _ _)); lk)
  refine call_meets (id := "str.join") F.slot_str_join (typeIs_str _ _ _) F.entry_str_join (F.args_str_join_2 _ _) (meets_str_join_list _ _ L [(⟨#[33, 97].extract (Int.toNat 0) 2⟩, tk)] ?_) ?_
  · kernel_rfl
  refine ⟨⟨_, hL2, rfl, 1, rfl⟩, ?_⟩
  have e : (⟨#[33, 97].extract (Int.toNat 0) 2⟩ : Str) = Str.ofString "!a" := by kernel_rfl
  rw [← e] at hR
  exact wpAny_pure (hR _ _ fun b o ne k => (Heap.get?_update_ne _ _ _ _ ne).trans k)
theorem sub_x (KX : (tKf w.params).In h) (ho : h.get? f = some { cls := .type "function", data := .func fd }) (hq : ∀ t' h' tk', Kp h h' → Q (.str (Str.ofString "!a") t') ⟨h', g, d, tk', os⟩) :
   wpAny (model Mine.prog w) A (call (.builtin "re.Pattern.sub") [.ref 63, .ref f, .str (Str.ofString "!a") u]) Q E ⟨h, g, d, tk, os⟩ := by
  have hT : (⟨h, g, d, tk, os⟩ : Shared).TypeIs (.ref 63) "re.Pattern" := ⟨_, (KX _ _ (by kernel_rfl) : h.get? 63 = some obj63), rfl⟩
  have kp : Kp h (h.push { cls := .type "list", data := .seq #[] }) := fun b o e => Heap.get?_push_of_some _ e
  refine wpAny_call (codeAny_call_builtin slot_pat_sub.plain (entryFor_of_tree (b := Builtin.«re.Pattern.sub») (by kernel_rfl)) (slot_pat_sub.check _ _ _ _ _ _ _ _ hT (by unfold argsOk; kernel_rfl) (sub1 KX ho ?_)))
  refine ⟨Code.quiet_builtin _ (by decide +kernel), codeAny_builtin (entryFor_of_tree (b := Builtin.«re.Pattern.sub.loop») (by kernel_rfl)) ?_⟩
  refine sub2 (KX.keeps kp) (Heap.get?_push_size _ rfl) fun h' tk' k => hq _ _ _ fun b o e => k b o (fun x => ?_) (kp _ _ e)
  subst x; exact absurd (Heap.lt_size e) (Nat.lt_irrefl _)
end
end
section
inductive CxN (w : World) (A : Around) (h : Heap) (c : Nat) (news : List (Addr × Obj)) : Prop
  | mk (dp un : Nat) (gd : Option (List Code)) (cn : Str) (cs : Scope) (L a : Addr) (ccd : Value) (cl : List (Str × Addr)) (outer : List Env) (A₀ : Around) (base h₀ : Heap) (m : Str → Option Value) (mean : ExcName → Option Value) (mg mb : Str → Option Value)
    (e : A = ktrTop dp un gd cn cs L a ccd cl outer) (B : Below A₀ base outer h₀) (F : Fr h₀ L h m) (X : (tKf w.params).In h₀) (T : Top topProg loose mean mg mb h₀) (hk : cs.kind = .function) (h1 : dp + c < 1000) (h2 : un + 10 * c + 1000 < 9900) (N : News h₀ L h news) : CxN w A h c news
theorem CxN.cx {w : World} {A : Around} {h : Heap} {c : Nat} {news : List (Addr × Obj)} (x : CxN w A h c news) : Cx w A h c := by
  obtain ⟨dp, un, gd, cn, cs, L, a, ccd, cl, outer, A₀, base, h₀, m, mean, mg, mb, e, B, F, X, T, hk, h1, h2, N⟩ := x
  exact ⟨dp, un, gd, cn, cs, L, a, ccd, cl, outer, A₀, base, h₀, m, mean, mg, mb, e, B, F, X, T, hk, h1, h2⟩
theorem CxN.get {w : World} {A : Around} {h : Heap} {c : Nat} {news : List (Addr × Obj)} (x : CxN w A h c news) {p : Addr × Obj} (hp : p ∈ news) : h.get? p.1 = some p.2 := by
  obtain ⟨dp, un, gd, cn, cs, L, a, ccd, cl, outer, A₀, base, h₀, m, mean, mg, mb, e, B, F, X, T, hk, h1, h2, N⟩ := x
  exact (N _ hp).1
theorem CxN.sub {w : World} {A : Around} {h : Heap} {c : Nat} {news news' : List (Addr × Obj)} (x : CxN w A h c news) (hs : ∀ p ∈ news', p ∈ news) : CxN w A h c news' := by
  obtain ⟨dp, un, gd, cn, cs, L, a, ccd, cl, outer, A₀, base, h₀, m, mean, mg, mb, e, B, F, X, T, hk, h1, h2, N⟩ := x
  exact ⟨dp, un, gd, cn, cs, L, a, ccd, cl, outer, A₀, base, h₀, m, mean, mg, mb, e, B, F, X, T, hk, h1, h2, fun p hp => N p (hs p hp)⟩
/-- everything but at X -/
noncomputable def Kx (X : List Addr) (h h' : Heap) : Prop := ∀ b o, b ∉ X → h.get? b = some o → h'.get? b = some o
theorem Kp.kx {X : List Addr} {h h' : Heap} (k : Kp h h') : Kx X h h' := fun b o _ e => k b o e
noncomputable def TabOk (pos : Pos) (ps : Array Value) : Prop := TriplesOk ps.toList ∧ (codeAmong pos ps.toList = none ∨ ∃ c', codeAmong pos ps.toList = some (.ref c'))
theorem triples_snoc {a b : Int} {t u : Tok} {c : Value} : ∀ (l : List Value), TriplesOk l → TriplesOk (l ++ [.int a t, .int b u, c])
  | [], _ => trivial
  | .int _ _ :: .int _ _ :: _ :: rest, h => triples_snoc rest h
  | [.int _ _], h => nomatch h
  | [.int _ _, .int _ _], h => nomatch h
theorem tabOk_snoc {pos : Pos} {ps : Array Value} {c' : Addr} (ht : TriplesOk ps.toList) (hn : codeAmong pos ps.toList = none) : TabOk pos (ps ++ #[rawInt pos.line, rawInt pos.col, .ref c']) := by
  have e : (ps ++ #[rawInt pos.line, rawInt pos.col, .ref c']).toList = ps.toList ++ [rawInt pos.line, rawInt pos.col, .ref c'] := by simp
  refine ⟨?_, .inr ⟨c', ?_⟩⟩
  · rw [e]; exact triples_snoc _ ht
  · rw [e]; exact codeAmong_snoc _ ht hn
theorem tabOk_nil (pos : Pos) : TabOk pos #[] := ⟨trivial, .inl rfl⟩
noncomputable def posL : Pos := ⟨104, 46, 104, 83⟩
noncomputable def posJ : Pos := ⟨848, 20, 848, 57⟩
section
variable {w : World} {A : Around} {E : Value → Shared → Prop} {s : Shared} {h₀ : Heap} {L : Addr} {m : Str → Option Value} {news : List (Addr × Obj)}
theorem getMethod_sub {pl : Sem Bool} {Q : Value × List Value → Shared → Prop} {M : Model} (F : Fr h₀ L s.heap m) (KX : (tKf w.params).In h₀) (h : Q (.builtin "re.Pattern.sub", [.ref 63]) s) : wpAny M A (getMethod (.ref 63) (Str.ofString "sub") pl) Q E s := by
  have ho : s.heap.get? 63 = some obj63 := (KX.keeps F.keep) 63 _ (by kernel_rfl)
  exact getMethod_builtin ⟨_, ho, rfl⟩ plainAttrs_pat slot_pat_sub type_pat_sub (fun a e => by cases e; exact ⟨_, ho, rfl⟩) h
theorem sub_K {dp un : Nat} {fr : Option (List Env)} {gd : Option (List Code)} {f : Addr} {fd : FuncData} {u : Tok} {x : Str} {Q : Value → Shared → Prop} (F : Fr h₀ L s.heap m) (N : News h₀ L s.heap news) (KX : (tKf w.params).In h₀)
    (hf : (f, ({ cls := .type "function", data := .func fd } : Obj)) ∈ news) (hx : x = Str.ofString "!a")
    (h : ∀ t' h' tk', Fr h₀ L h' m → News h₀ L h' news → Q (.str (Str.ofString "!a") t') { s with heap := h', toks := tk' }) :
    wpAny (model Mine.prog w) {handled := none, depth := dp, frames := fr, guards := gd, units := un} (call (.builtin "re.Pattern.sub") [.ref 63, .ref f, .str x u]) Q E s := by
  subst hx
  exact sub_x (KX.keeps F.keep) (N _ hf).1 fun t' h' tk' k => h t' h' tk' (F.keeps k) (N.grown k)
end
theorem replace_none {w : World} {A : Around} {E : Value → Shared → Prop} {s : Shared} {x y z : Str} {t u v : Tok} {Q : Value → Shared → Prop} (hn : ((Builtin.Str.occurrences x y 0 x.length (x.length + 1)).isEmpty || (y.length == 0 && z.length == 0)) = true)
    (hq : ∀ t' k, Q (.str x t') { s with toks := k }) : wpAny (model Mine.prog w) A (call (.builtin "str.replace") [.str x t, .str y u, .str z v]) Q E s := by
  refine call_gives F.slot_str_replace (typeIs_str _ _ _) F.entry_str_replace (F.args_str_replace_3 _ _ _) (gives_str_replace x y z t u v fun h => by rw [hn] at h; cases h) ?_
  rw [if_pos hn]
  exact hq t s.toks
theorem notin_lit {w : World} {A : Around} {E : Value → Shared → Prop} {s : Shared} {x y : Str} {t u : Tok} {b : Bool} {Q : Value → Shared → Prop} (e : (!(!(Builtin.Str.occurrences x y 0 x.length 1).isEmpty)) = b) (h : Q (.bool b) s) :
    wpAny (model Mine.prog w) A (compareOp .NotIn (.str y u) (.str x t)) Q E s := P.notIn_str (by rw [e]; exact h)
theorem PartsAre.strE {S : Addr} {x y : Str} {t : Tok} {vs ps} (e : x = y) (h : PartsAre S vs ps) : PartsAre S (.str x t :: vs) (some y :: ps) := by subst e; exact .str h
theorem lam_K {M : Model} {A : Around} {E : Value → Shared → Prop} {s : Shared} {h₀ : Heap} {L a c P : Addr} {m mg mb : Str → Option Value} {cn : Str} {cs : Scope} {ccd : Value} {cl : List (Str × Addr)} {news : List (Addr × Obj)} {g : Obj → List (Addr × Obj)}
    {p : Program} {loose : List Str} {mean : ExcName → Option Value} {name qual : Str} {params : Arguments} {body : PySem.Expr} {scope : Scope} {ps : Array Value} {pos : Pos} {firstLine : Nat} {clos : List (Str × Addr)} {Q : Value → Shared → Prop}
    (F : Fr h₀ L s.heap m) (N : News h₀ L s.heap news) (T : Top p loose mean mg mb h₀) (C : CodeHd h₀ c P) (hcd : ccd = .ref c) (U : UpdF P (tabObj ps) news g) (hok : TabOk pos ps) (hcl : closureFor scope (envX cn cs L a ccd cl) = pure clos)
    (h : ∀ f fd ps' h' tk', Fr h₀ L h' m → News h₀ L h' ((f, ({ cls := .type "function", data := .func fd } : Obj)) :: g (tabObj ps')) → TabOk pos ps' → (∀ q ∈ news, q.1 < f) → Q (.ref f) { s with heap := h', toks := tk' }) :
    wpAny M A (makeFunction name qual params (.expr body) scope (envX cn cs L a ccd cl) [] [] [] pos firstLine) Q E s := by
  obtain ⟨ht, hn | ⟨c', hn⟩⟩ := hok
  · refine kla_nest F N T C hcd U ht hn hcl fun f c' oc vs t ctv h' tk F' N' _ _ l1 l2 => h f (kla_fn name qual params body scope clos ((mg "__name__").getD .none) (.ref c') ctv) (ps ++ #[rawInt pos.line, rawInt pos.col, .ref c']) h' tk F' (fun q hq => N' q ?_) (tabOk_snoc ht hn) (fun q hq => Nat.lt_trans (l1 q hq) l2)
    rcases List.mem_cons.mp hq with rfl | hq
    · exact .head _
    · exact .tail _ (.tail _ hq)
  · obtain ⟨own, rest, e, hg, _⟩ := U.split
    refine kla_hit F N T C hcd (e ▸ List.mem_append_right _ (.head _)) ht hn hcl fun f ctv h' tk F' N' l1 => h f (kla_fn name qual params body scope clos ((mg "__name__").getD .none) (.ref c') ctv) ps h' tk F' ?_ ⟨ht, .inr ⟨_, hn⟩⟩ l1
    rw [hg, ← e]; exact N'
theorem kx_of {h g h' : Heap} {L P : Addr} {m : Str → Option Value} {o : Obj} (G : GSub h g (List.map (fun x : Addr × Obj => x.1) [(P, o)])) (F : Fr g L h' m) : Kx [P] h h' := fun b o' hb e => F.keep b o' (G b o' e (by simpa using hb))
theorem ret_listT {s : Shared} {Q : Value → Shared → Prop} {g h' : Heap} {L P T : Addr} {m : Str → Option Value} {its ps ps' : Array Value} {n : Nat} {news : List (Addr × Obj)} {tk' : Nat} {R : List Value → Prop} {pos : Pos}
    (h : ∀ P vs n ps' h' tk', Kx [T] s.heap h' → s.heap.get? P = none → h'.get? P = some (listOf vs.toArray n) → R vs → h'.get? T = some (tabObj ps') → TabOk pos ps' → Q (.ref P) { s with heap := h', toks := tk' })
    (G : GSub s.heap g (List.map (fun x : Addr × Obj => x.1) [(T, tabObj ps)])) (F : Fr g L h' m) (N : News g L h' news) (hm : (P, listOf its n) ∈ news) (hne : P ≠ T) (ht : (T, tabObj ps') ∈ news) (hok : TabOk pos ps') (hr : R its.toList) : Q (.ref P) { s with heap := h', toks := tk' } := by
  refine h P its.toList n ps' h' tk' (kx_of G F) ?_ (N _ hm).1 hr (N _ ht).1 hok
  cases q : s.heap.get? P with
  | none => rfl
  | some o => have := G _ _ q (by simpa using hne); rw [(N _ hm).2.2] at this; cases this
end
section
noncomputable def TurnEnd (g : Heap) (L I : Addr) (oI : Obj) (Jn : (Str → Option Value) → List (Addr × Obj) → Prop) (s : Shared) (Q : Flow → Shared → Prop) (f : Flow) (s₃ : Shared) : Prop :=
  match f with
  | .ret v => Q (.ret v) s₃
  | .brk => Q .next s₃
  | _ => ∃ h' tk' m' news', s₃ = { s with heap := h', toks := tk' } ∧ Fr g L h' m' ∧ News g L h' ((I, oI) :: news') ∧ (∀ p ∈ news', p.1 ≠ I) ∧ Jn m' news'
section
variable {w : World} {A : Around} {E : Value → Shared → Prop} {s : Shared} {env : Env} {g : Heap} {x : Str} {px : Pos} {body : List Stmt} {Q : Flow → Shared → Prop} {m₀ : Str → Option Value} {news₀ : List (Addr × Obj)}
theorem loopL {l : Addr} {vs : List Value} (J : Nat → (Str → Option Value) → List (Addr × Obj) → Prop)
    (hh : A.handled = none) (F : Fr g env.locals s.heap m₀) (N : News g env.locals s.heap news₀) (hj : J 0 m₀ news₀)
    (hls : ∀ h m news i, J i m news → Fr g env.locals h m → News g env.locals h news → h.IsList l vs.toArray)
    (turn : ∀ i v m news h tk I oI, (∀ p ∈ news₀, @LT.lt Nat _ p.1 I) → vs[i]? = some v → J i m news → (∀ p ∈ news, p.1 ≠ I) → Fr g env.locals h m → News g env.locals h ((I, oI) :: news) →
      wpAny (model Mine.prog w) A (assign (.Name x px) env v) (fun _ s₂ => wpAny (model Mine.prog w) A (execs body env) (TurnEnd g env.locals I oI (J (i + 1)) s Q) E s₂) E { s with heap := h, toks := tk })
    (done : ∀ m news h tk, J vs.length m news → Fr g env.locals h m → News g env.locals h news → Q .next { s with heap := h, toks := tk })
    (hE : PassesOwn (model Mine.prog w) A env E := by passes_own) :
    wpAny (model Mine.prog w) A (pyIter (.ref l)) (fun it s₂ => codeAny (model Mine.prog w) A (.forLoop (.Name x px) it body [] env)
      (fun r s' => match r with | .ok f => Q f s' | .error e => cameBackBy (model Mine.prog w) A env E e s') s₂) E s := by
  have hl := hls _ _ _ _ hj F N
  refine wpAny_pyIter_list hl ?_
  have hIg : g.get? s.heap.objs.size = none := next_is_new F
  have hIL : s.heap.objs.size ≠ env.locals := fun e => absurd F.ns.lt (e ▸ Nat.lt_irrefl _)
  generalize hI : s.heap.objs.size = I at hIg hIL ⊢
  have hlI : l ≠ I := by obtain ⟨o, ho, _⟩ := id hl; exact hI ▸ Nat.ne_of_lt (Heap.lt_size ho)
  have same : ∀ {h h₁ : Heap} {m : Str → Option Value} {news : List (Addr × Obj)}, (∀ b o, b ≠ I → h.get? b = some o → h₁.get? b = some o) → Fr g env.locals h m → News g env.locals h news → (∀ p ∈ news, p.1 ≠ I) → Fr g env.locals h₁ m ∧ News g env.locals h₁ news :=
    fun k F N hn => ⟨⟨F.ns.at' fun o e => k _ o (Ne.symm hIL) e, fun b o e => k b o (by rintro rfl; rw [hIg] at e; cases e) (F.keep b o e), F.above⟩, fun p hp => ⟨k _ _ (hn p hp) (N p hp).1, (N p hp).2⟩⟩
  refine codeAny_forLoop
    (fun k s' => ∃ h' tk m' news' i, s' = { s with heap := h', toks := tk } ∧ h'.IsListIter I l i ∧ Fr g env.locals h' m' ∧ News g env.locals h' news' ∧ (∀ p ∈ news', p.1 ≠ I) ∧ J i m' news' ∧ i ≤ vs.length ∧ k = vs.length + 1 - i) ?_ (vs.length + 1)
    ⟨_, s.toks, m₀, news₀, 0, rfl, ⟨_, hI ▸ Heap.get?_push_size _ rfl, rfl, rfl⟩, F.push _, fun p hp => ⟨Heap.get?_push_of_some _ (N p hp).1, (N p hp).2⟩, fun p hp => hI ▸ Nat.ne_of_lt (Heap.lt_size (N p hp).1), hj, Nat.zero_le _, rfl⟩
  rintro k s' hY22z
  refine ex5 hY22z ?_
  intro h' tk m' news' i hZ23z
  clear hY22z
  refine and8 hZ23z ?_
  intro hR24z hit F' N' hn' hJ hi hR25z
  clear hZ23z
  subst hR24z
  subst hR25z
  have hl' := hls _ _ _ _ hJ F' N'
  cases hv : vs[i]? with
  | none =>
    have hin : i = vs.length := Nat.le_antisymm hi (List.getElem?_eq_none_iff.mp hv)
    refine wpAny_pyNext_list_end hh hit hl' (by simpa using hv) fun h₁ hs₁ => ?_
    obtain ⟨F₁, N₁⟩ := same hs₁ F' N' hn'
    exact wpAny_execs_nil (done m' news' h₁ tk (hin ▸ hJ) F₁ N₁)
  | some v =>
    have hlt : i < vs.length := (List.getElem?_eq_some_iff.mp hv).1
    refine wpAny_pyNext_list_item hit hl' (by simpa using hv) fun h₁ hit₁ hs₁ => ?_
    obtain ⟨F₁, N₁⟩ := same hs₁.extBut F' N' hn'
    obtain ⟨oI, hoI, c1, c2⟩ := hit₁
    refine wpAny_passesOwn hE (wpAny_mono (turn i v m' news' h₁ tk I oI (fun p hp => hI ▸ Heap.lt_size (N p hp).1) hv hJ hn' F₁ fun p hp => ?_) (fun _ s₂ h₂ => wpAny_passesOwn hE (wpAny_mono h₂ (fun f s₃ h₃ => ?_) fun _ _ e => e)) fun _ _ e => e)
    · rcases List.mem_cons.mp hp with rfl | hp
      · exact ⟨hoI, hIL, hIg⟩
      · exact N₁ p hp
    · have fin : (∃ h' tk' m' news', s₃ = { s with heap := h', toks := tk' } ∧ Fr g env.locals h' m' ∧ News g env.locals h' ((I, oI) :: news') ∧ (∀ p ∈ news', p.1 ≠ I) ∧ J (i + 1) m' news') →
          ∃ m, m < vs.length + 1 - i ∧ ∃ h' tk m' news' i, s₃ = { s with heap := h', toks := tk } ∧ h'.IsListIter I l i ∧ Fr g env.locals h' m' ∧ News g env.locals h' news' ∧ (∀ p ∈ news', p.1 ≠ I) ∧ J i m' news' ∧ i ≤ vs.length ∧ m = vs.length + 1 - i := by
        rintro hY26z
        refine ex4 hY26z ?_
        intro h₂ tk₂ m₂ news₂ hZ27z
        clear hY26z
        refine and5 hZ27z ?_
        intro hR28z F₂ N₂ hn₂ hJ₂
        clear hZ27z
        subst hR28z
        exact ⟨vs.length + 1 - (i + 1), by omega, h₂, tk₂, m₂, news₂, i + 1, rfl, ⟨oI, (N₂ _ (.head _)).1, c1, c2⟩, F₂, fun p hp => N₂ p (.tail _ hp), hn₂, hJ₂, hlt, rfl⟩
      cases f with
      | ret v => exact h₃
      | brk => exact h₃
      | next => exact fin h₃
      | cont => exact fin h₃
noncomputable def EndS {σ : Type} (g : Heap) (L I : Addr) (oI : Obj) (Led : σ → List (Addr × Obj)) (cst : List (Addr × Obj)) (stored : List Str) (m₀ : Str → Option Value) (Inv : σ → Prop) (s : Shared) (Q : Flow → Shared → Prop) (f : Flow) (s₃ : Shared) : Prop :=
  match f with
  | .ret v => Q (.ret v) s₃
  | .brk => Q .next s₃
  | _ => ∃ c' h' tk' m', s₃ = { s with heap := h', toks := tk' } ∧ (∀ y, stored.contains y = false → m' y = m₀ y) ∧ Fr g L h' m' ∧ News g L h' ((I, oI) :: (Led c' ++ cst)) ∧ Inv c'
theorem st_base {stored : List Str} {m₀ u : Str → Option Value} : ∀ y, stored.contains y = false → (if stored.contains y = true then u y else m₀ y) = m₀ y := fun y h => by rw [h]; rfl
theorem st_self {stored : List Str} {m₀ : Str → Option Value} : ∀ y, stored.contains y = false → m₀ y = m₀ y := fun _ _ => rfl
theorem st_step {stored : List Str} {m₀ m : Str → Option Value} {x : Str} {v : Option Value} (h : ∀ y, stored.contains y = false → m y = m₀ y) (hx : stored.contains x = true) : ∀ y, stored.contains y = false → (if y = x then v else m y) = m₀ y := by
  intro y hy
  have : y ≠ x := by rintro rfl; rw [hx] at hy; cases hy
  rw [if_neg this]; exact h y hy
theorem st_fun {stored : List Str} {m₀ m : Str → Option Value} (h : ∀ y, stored.contains y = false → m y = m₀ y) : m = fun y => if stored.contains y = true then m y else m₀ y := by
  funext y
  cases hy : stored.contains y with
  | true => rfl
  | false => exact h y hy
theorem loopS {σ : Type} {l : Addr} {vs : List Value} (Led : σ → List (Addr × Obj)) (cst : List (Addr × Obj)) (stored : List Str) (adr : List Addr) (Inv : Nat → σ → Prop) (c₀ : σ)
    (hh : A.handled = none) (hlist : g.IsList l vs.toArray ∨ ∃ k, (l, listOf vs.toArray k) ∈ cst) (F : Fr g env.locals s.heap m₀) (N : News g env.locals s.heap (Led c₀ ++ cst)) (hadr : ∀ c, (Led c).map (·.1) = adr) (h0 : Inv 0 c₀)
    (turn : ∀ i v c (u : Str → Option Value) h tk I oI, vs[i]? = some v → Inv i c → (∀ b ∈ adr, @LT.lt Nat _ b I) → (∀ p ∈ cst, @LT.lt Nat _ p.1 I) → Fr g env.locals h (fun y => if stored.contains y = true then u y else m₀ y) → News g env.locals h ((I, oI) :: (Led c ++ cst)) →
      wpAny (model Mine.prog w) A (assign (.Name x px) env v) (fun _ s₂ => wpAny (model Mine.prog w) A (execs body env) (EndS g env.locals I oI Led cst stored m₀ (Inv (i + 1)) s Q) E s₂) E { s with heap := h, toks := tk })
    (done : ∀ c (u : Str → Option Value) h tk, Inv vs.length c → Fr g env.locals h (fun y => if stored.contains y = true then u y else m₀ y) → News g env.locals h (Led c ++ cst) → Q .next { s with heap := h, toks := tk })
    (hE : PassesOwn (model Mine.prog w) A env E := by passes_own) :
    wpAny (model Mine.prog w) A (pyIter (.ref l)) (fun it s₂ => codeAny (model Mine.prog w) A (.forLoop (.Name x px) it body [] env)
      (fun r s' => match r with | .ok f => Q f s' | .error e => cameBackBy (model Mine.prog w) A env E e s') s₂) E s := by
  refine loopL (l := l) (vs := vs) (fun i m news => (∀ y, stored.contains y = false → m y = m₀ y) ∧ ∃ c, news = Led c ++ cst ∧ Inv i c) hh F N ⟨st_self, c₀, rfl, h0⟩ ?_ ?_ ?_ hE
  · rintro h m news i ⟨_, c, rfl, _⟩ F N
    rcases hlist with hl | ⟨k, hm⟩
    · exact hl.at fun o e => F.keep _ _ e
    · exact ⟨_, (N _ (List.mem_append_right _ hm)).1, rfl, k, rfl⟩
  · rintro i v m news h tk I oI hI hv hY29z hn F' N'
    refine and2 hY29z ?_
    intro hm hZ30z
    clear hY29z
    refine ex1 hZ30z ?_
    intro c hZ31z
    clear hZ30z
    refine and2 hZ31z ?_
    intro hR32z hinv
    clear hZ31z
    subst hR32z
    have hI1 : ∀ b ∈ adr, @LT.lt Nat _ b I := fun b hb => by
      rw [← hadr c₀] at hb
      obtain ⟨q, hq, rfl⟩ := List.mem_map.mp hb
      exact hI q (List.mem_append_left _ hq)
    have hI2 : ∀ p ∈ cst, @LT.lt Nat _ p.1 I := fun p hp => hI p (List.mem_append_right _ hp)
    refine wpAny_mono (turn i v c m h tk I oI hv hinv hI1 hI2 (st_fun hm ▸ F') N') (fun _ s₂ h₂ => wpAny_mono h₂ (fun f s₃ h₃ => ?_) fun _ _ e => e) fun _ _ e => e
    have fin : (∃ c' h' tk' m', s₃ = { s with heap := h', toks := tk' } ∧ (∀ y, stored.contains y = false → m' y = m₀ y) ∧ Fr g env.locals h' m' ∧ News g env.locals h' ((I, oI) :: (Led c' ++ cst)) ∧ Inv (i + 1) c') →
        ∃ h' tk' m' news', s₃ = { s with heap := h', toks := tk' } ∧ Fr g env.locals h' m' ∧ News g env.locals h' ((I, oI) :: news') ∧ (∀ p ∈ news', p.1 ≠ I) ∧ (∀ y, stored.contains y = false → m' y = m₀ y) ∧ ∃ c, news' = Led c ++ cst ∧ Inv (i + 1) c := by
      rintro hY33z
      refine ex4 hY33z ?_
      intro c' h' tk' m' hZ34z
      clear hY33z
      refine and5 hZ34z ?_
      intro hR35z hm' F'' N'' hi
      clear hZ34z
      subst hR35z
      refine ⟨h', tk', m', Led c' ++ cst, rfl, F'', N'', fun p hp => ?_, hm', c', rfl, hi⟩
      rcases List.mem_append.mp hp with hp | hp
      · exact Nat.ne_of_lt (hI1 _ (hadr c' ▸ List.mem_map_of_mem hp))
      · exact Nat.ne_of_lt (hI2 p hp)
    cases f with
    | ret v => exact h₃
    | brk => exact h₃
    | next => exact fin h₃
    | cont => exact fin h₃
  · rintro m news h tk hY36z F' N'
    refine and2 hY36z ?_
    intro hm hZ37z
    clear hY36z
    refine ex1 hZ37z ?_
    intro c hZ38z
    clear hZ37z
    refine and2 hZ38z ?_
    intro hR39z hi
    clear hZ38z
    subst hR39z
    exact done c m h tk hi (st_fun hm ▸ F') N'
end
end
section
section
variable {prog : Program} {w : World} {A A₀ : Around} {E : Value → Shared → Prop} {s : Shared} {K : Frag} {L : Addr} {h₀ base : Heap} {m mg mb : Str → Option Value} {news : List (Addr × Obj)} {p : Program} {loose : List Str} {mean : ExcName → Option Value}
theorem code_defCG {env : Env} {outer : List Env} {R : Result → Shared → Prop} {name qual : Str} {params : Arguments} {body : List Stmt} {scope : Scope} {dV kV doc pm cdv ct oc : Value} {an od : Option Addr} {osl : Array (Option Value)} {f : Addr} {args : Args} {binds : List (Str × Value)}
    (B : Below A₀ base outer h₀) (F : Fr h₀ L s.heap m) (X₀ : K.In h₀) (N : News h₀ L s.heap news) (T : Top p loose mean mg mb h₀) (hA : A.frames = some (env :: outer)) (hf : env.frame = some L) (hke : env.scope.kind = .function)
    (ho : K.lookup f = some ⟨oc, od, .func (fnOf name qual params body scope dV kV doc pm an cdv ct), osl⟩) (hcd : codeIn K cdv qual = true) (hroom : A.depth < recursionLimit)
    (hbind : BindsTo s (fnOf name qual params body scope dV kV doc pm an cdv ct) args binds) (hkind : (binds.all fun y => scope.names.lookup y.1 == some .local || scope.names.lookup y.1 == some .cell) = true)
    (hnd : ((cellsFrom 0 scope.names []).map (·.1)).Nodup)
    (h : ∀ g L' h₁ tk cells, Fr h₀ L g m → Fr g L' h₁ (bindL (envOfC qual scope L' f cdv).kindOf binds fun _ => none) → News g L' h₁ (cells ++ news) →
      CellsAre (bindC (envOfC qual scope L' f cdv).kindOf binds fun _ => none) (cellsFrom (L' + 1) scope.names []) cells → Below A base (env :: outer) g → K.In g → Top p loose mean mg mb g → (∀ p ∈ news, p.1 < L') → GSub s.heap g (news.map (·.1)) →
      wpAny (model prog w) (A.deeper (envOfC qual scope L' f cdv)) (execs body (envOfC qual scope L' f cdv))
        (fun fl s' => LeaveK h₀ L m g R (match fl with | .ret v => v | _ => .none) s')
        (fun e s' => wpAny (model prog w) (A.deeper (envOfC qual scope L' f cdv)) (leaving (envOfC qual scope L' f cdv) e) (fun _ s'' => R (.error e) s'') (fun e' s'' => R (.error e') s'') s')
        { s with heap := h₁, toks := tk })
    (hco : scope.isCoroutine = false) (hgen : scope.isGenerator = false) (hk : scope.kind = .function) : codeAny (model prog w) A (.call (.ref f) args) R s := by
  obtain ⟨FG, BG, st, lv⟩ := groundX (R := R) B F N hA hf hke
  refine codeAny_call_function hroom ((X₀.keeps F.keep) _ _ ho) rfl hco hgen rfl (codeRec_of (X₀.keeps F.keep) hcd) (hbind _ _ _ _ ?_)
  refine wpAny_newFunctionEnv_cells hk (kindsX hkind _) fun env' he s' x => ?_
  subst he
  refine ⟨(T.nolimit.keeps F.keep).keeps x.toInCall.keep, codeAny_func ?_⟩
  obtain ⟨h₁, tk, rfl, _⟩ := x.done
  have hk₁ := x.toInCall.keep
  obtain ⟨cells, NC, Y⟩ := Cl.news (h₀ := s.heap) (Nat.le_refl _) fun n c hm => ⟨x.cell n c (lookup_of_mem_nodup (cellsFrom_names scope.names 0 (s.heap.objs.size + 1) [] [] rfl ▸ hnd) hm), x.above n c hm⟩
  refine wpAny_mono (h _ s.heap.objs.size h₁ tk cells FG ⟨x.toInCall.ns, fun b o e => hk₁ b o (of_hideAll _ e), Nat.le_of_eq (hideAll_size _ _)⟩ (fun p hp => ?_) Y BG (X₀.keeps st) (T.keeps st) (fun p hp => Heap.lt_size (N p hp).1) (fun b o e n => hideAll_get _ e n)) (fun fl s' hl => lv _ _ hl) fun _ _ y => y
  rcases List.mem_append.mp hp with hp | hp
  · refine ⟨(NC p hp).1, (NC p hp).2.1, ?_⟩
    cases e : (hideAll s.heap (news.map (·.1))).get? p.1 with
    | none => rfl
    | some o => have := of_hideAll _ e; rw [(NC p hp).2.2] at this; cases this
  · exact ⟨hk₁ _ _ (N p hp).1, Nat.ne_of_lt (Heap.lt_size (N p hp).1), hideAll_none _ (List.mem_map_of_mem hp)⟩
end
end
section
theorem storeX_M {M : Model} {A : Around} {E : Value → Shared → Prop} {s : Shared} {h₀ : Heap} {L a : Addr} {m : Str → Option Value} {news : List (Addr × Obj)} {cn : Str} {cs : Scope} {ccd : Value} {cl : List (Str × Addr)} {x : Str} {v : Value} {Q : Unit → Shared → Prop}
    (F : Fr h₀ L s.heap m) (N : News h₀ L s.heap news)
    (h : ∀ h', let m' := fun y => if y = x then some v else m y; Fr h₀ L h' m' → News h₀ L h' news → Q () { s with heap := h', toks := s.toks + 1 })
    (hk : cs.kind = .function) (hx : (envX cn cs L a ccd cl).kindOf x = some .local) : wpAny M A (storeName (envX cn cs L a ccd cl) x v) Q E s :=
  storeX_L F N h hk hx
end
local macro_rules | `(tactic| k_room) => `(tactic| ((try simp only [depth_under_make, depth_under_kw, depth_in1, depth_deeper, depth_caller]); (try dsimp only); (try simp only [recursionLimit]); omega))
section
theorem tr_0 {w : World} {A : Around} {s : Shared} {Q E : Value → Shared → Prop} {S : Addr} {vS : List Value} {t u : Tok} (hc : Cx w A s.heap 2) (hS : s.heap.IsList S vS.toArray)
    (h : ∀ P vs n h' tk', Kp s.heap h' → s.heap.get? P = none → h'.get? P = some (listOf vs.toArray n) → PartsAre S vs [some (Str.ofString "a"), none] → Q (.ref P) { s with heap := h', toks := tk' }) :
    wpAny (model prog w) A (call (.ref 82) [.str (Str.ofString "a*") t, .ref S, .str (Str.ofString ".") u]) Q E s := by
  obtain ⟨dp, un, gd, cn, cs, L, a, ccd, cl, outer, A₀, base, h₀, m, mean, mg, mb, rfl, B, F, X, T, hk, h1, h2⟩ := hc
  refine wpAny_call ?_
  k_dflt (refine' code_defG ?k1 ?k2 ?k3 (News.nil) ?k5 ?kA ?kF ?kK ?k6 ?k7 ?k8 ?k9 ?kB ?_ ?c2 ?c3 ?c4 ?c5; (case kA => exact rfl); (case kF => exact rfl); (case kK => assumption); (case k1 => k_asm); (case k2 => k_asm); (case k3 => k_asm); (case k5 => k_asm); (case k6 => k_is); (case k7 => k_is); (case k8 => exact room (by assumption)); (case k9 => exact BindsTo.of_eq rfl); (case c5 => decide); (case kB => exact locs rfl); (case c2 => exact rfl); (case c3 => exact rfl); (case c4 => exact rfl); k_whole; intro _ _ _ _ _ _ _ _ _ _; (try dsimp only))
  k_fold
  (repeat' (first | (k_unfold; (try dsimp only)) | (k_end; wrow_close) | ((with_reducible show wpAny _ _ (execs (_ :: _) _) _ _ _); first | k_gentoks | ((with_reducible refine wpAny_execs_cons ?_); k_fold)) | ((first | ((with_reducible show wpAny _ _ (storeName _ _ _) _ _ _); k_dflt (refine' storeX_M ?Fz ?Nz ?_ ?az ?bz; (case Fz => k_asm); (case Nz => k_asm); (case az => rfl); (case bz => rfl); k_whole; intro _ _ _ _; (try k_sweep))) | ((with_reducible show wpAny _ _ (compareOp CmpOp.IsNot (Value.str _ _) (Value.ref _)) _ _ _); refine wpAny_isNot_other rfl (by intro e; cases e) ?_) | ((with_reducible show wpAny _ _ (call (Value.builtin "str.translate") [Value.str _ _, Value.ref _]) _ _ _); k_dflt first | (refine' trans_K (c := 97) ?k1z ?k2z ?k3z ?k4z ?k5z ?k6z ?_; (case k1z => k_asm); (case k2z => k_asm); (case k3z => k_asm); (case k4z => rfl); (case k5z => decide +kernel); (case k6z => decide); k_whole; intro t' h' tk' F' N'; (try k_sweep)) | (refine' trans_K (c := 98) ?k1z ?k2z ?k3z ?k4z ?k5z ?k6z ?_; (case k1z => k_asm); (case k2z => k_asm); (case k3z => k_asm); (case k4z => rfl); (case k5z => decide +kernel); (case k6z => decide); k_whole; intro t' h' tk' F' N'; (try k_sweep)) | (refine' trans_K (c := 39) ?k1z ?k2z ?k3z ?k4z ?k5z ?k6z ?_; (case k1z => k_asm); (case k2z => k_asm); (case k3z => k_asm); (case k4z => rfl); (case k5z => decide +kernel); (case k6z => decide); k_whole; intro t' h' tk' F' N'; (try k_sweep)) | (refine' trans_K2 ?k1z ?k2z ?k3z ?_; (case k1z => k_asm); (case k2z => k_asm); (case k3z => decide +kernel); k_whole; intro t' tk')) | (with_reducible refine getMethod_translate ?_) | ((with_reducible show wpAny _ _ (subscriptTail _ _ (Value.str _ _) (Value.int _ _)) _ _ _); (refine KXi.item (by kxi_len) (by decide) (by decide) (by decide) ?_); intro kxiE) | ((with_reducible show wpAny _ _ (callWith _ (Value.ref _) _ _ _) _ _ _); (k_dflt (refine' callWith_B ?k1z ?k2z ?_; (case k1z => k_asm); (case k2z => k_mem); k_whole))) | ((with_reducible show wpAny _ _ (call (Value.ref _) [_]) _ _ _); refine' callApp_K ?k1z ?k2z ?k3z ?k4z ?_ ?zz; (case k1z => k_asm); (case k2z => k_asm); (case k3z => k_mem); (case k4z => k_upd); (case zz => size_fits); k_whole; intro h' F' N'; (try k_sweep)) | ((with_reducible show wpAny _ _ (getAttr (Value.ref _) (PySem.Str.ofString "append") true) _ _ _); refine' getAttrApp_K ?k1z ?k2z ?k3z ?_; (case k1z => k_asm); (case k2z => k_asm); (case k3z => k_mem); k_whole; intro a' h' tk' F' N' l1; (try simp only [GnNe, and_true] at l1)) | fail "none")) | walk1 | dsimp only | (leave1; walk_say "STEP leave1"; try dsimp only) | fail "no step"))
  all_goals try ((with_reducible rename News _ _ _ _ => kN9); exact News.get kN9 (by k_mem))
  exact ret_list h (by assumption) (by assumption) (by assumption) (by k_mem) (by first | exact .nil | exact .str (.nil) | exact .star .nil | exact .str (.star .nil) | exact .star (.str .nil) | exact .star (.str (.star .nil)) | exact .str (.str .nil))
theorem tr_1 {w : World} {A : Around} {s : Shared} {Q E : Value → Shared → Prop} {S : Addr} {vS : List Value} {t u : Tok} (hc : Cx w A s.heap 2) (hS : s.heap.IsList S vS.toArray)
    (h : ∀ P vs n h' tk', Kp s.heap h' → s.heap.get? P = none → h'.get? P = some (listOf vs.toArray n) → PartsAre S vs [none, some (Str.ofString "b")] → Q (.ref P) { s with heap := h', toks := tk' }) :
    wpAny (model prog w) A (call (.ref 82) [.str (Str.ofString "*b") t, .ref S, .str (Str.ofString ".") u]) Q E s := by
  obtain ⟨dp, un, gd, cn, cs, L, a, ccd, cl, outer, A₀, base, h₀, m, mean, mg, mb, rfl, B, F, X, T, hk, h1, h2⟩ := hc
  refine wpAny_call ?_
  k_dflt (refine' code_defG ?k1 ?k2 ?k3 (News.nil) ?k5 ?kA ?kF ?kK ?k6 ?k7 ?k8 ?k9 ?kB ?_ ?c2 ?c3 ?c4 ?c5; (case kA => exact rfl); (case kF => exact rfl); (case kK => assumption); (case k1 => k_asm); (case k2 => k_asm); (case k3 => k_asm); (case k5 => k_asm); (case k6 => k_is); (case k7 => k_is); (case k8 => exact room (by assumption)); (case k9 => exact BindsTo.of_eq rfl); (case c5 => decide); (case kB => exact locs rfl); (case c2 => exact rfl); (case c3 => exact rfl); (case c4 => exact rfl); k_whole; intro _ _ _ _ _ _ _ _ _ _; (try dsimp only))
  k_fold
  (repeat' (first | (k_unfold; (try dsimp only)) | (k_end; wrow_close) | ((with_reducible show wpAny _ _ (execs (_ :: _) _) _ _ _); first | k_gentoks | ((with_reducible refine wpAny_execs_cons ?_); k_fold)) | ((first | ((with_reducible show wpAny _ _ (storeName _ _ _) _ _ _); k_dflt (refine' storeX_M ?Fz ?Nz ?_ ?az ?bz; (case Fz => k_asm); (case Nz => k_asm); (case az => rfl); (case bz => rfl); k_whole; intro _ _ _ _; (try k_sweep))) | ((with_reducible show wpAny _ _ (compareOp CmpOp.IsNot (Value.str _ _) (Value.ref _)) _ _ _); refine wpAny_isNot_other rfl (by intro e; cases e) ?_) | ((with_reducible show wpAny _ _ (call (Value.builtin "str.translate") [Value.str _ _, Value.ref _]) _ _ _); k_dflt first | (refine' trans_K (c := 97) ?k1z ?k2z ?k3z ?k4z ?k5z ?k6z ?_; (case k1z => k_asm); (case k2z => k_asm); (case k3z => k_asm); (case k4z => rfl); (case k5z => decide +kernel); (case k6z => decide); k_whole; intro t' h' tk' F' N'; (try k_sweep)) | (refine' trans_K (c := 98) ?k1z ?k2z ?k3z ?k4z ?k5z ?k6z ?_; (case k1z => k_asm); (case k2z => k_asm); (case k3z => k_asm); (case k4z => rfl); (case k5z => decide +kernel); (case k6z => decide); k_whole; intro t' h' tk' F' N'; (try k_sweep)) | (refine' trans_K (c := 39) ?k1z ?k2z ?k3z ?k4z ?k5z ?k6z ?_; (case k1z => k_asm); (case k2z => k_asm); (case k3z => k_asm); (case k4z => rfl); (case k5z => decide +kernel); (case k6z => decide); k_whole; intro t' h' tk' F' N'; (try k_sweep)) | (refine' trans_K2 ?k1z ?k2z ?k3z ?_; (case k1z => k_asm); (case k2z => k_asm); (case k3z => decide +kernel); k_whole; intro t' tk')) | (with_reducible refine getMethod_translate ?_) | ((with_reducible show wpAny _ _ (subscriptTail _ _ (Value.str _ _) (Value.int _ _)) _ _ _); (refine KXi.item (by kxi_len) (by decide) (by decide) (by decide) ?_); intro kxiE) | ((with_reducible show wpAny _ _ (callWith _ (Value.ref _) _ _ _) _ _ _); (k_dflt (refine' callWith_B ?k1z ?k2z ?_; (case k1z => k_asm); (case k2z => k_mem); k_whole))) | ((with_reducible show wpAny _ _ (call (Value.ref _) [_]) _ _ _); refine' callApp_K ?k1z ?k2z ?k3z ?k4z ?_ ?zz; (case k1z => k_asm); (case k2z => k_asm); (case k3z => k_mem); (case k4z => k_upd); (case zz => size_fits); k_whole; intro h' F' N'; (try k_sweep)) | ((with_reducible show wpAny _ _ (getAttr (Value.ref _) (PySem.Str.ofString "append") true) _ _ _); refine' getAttrApp_K ?k1z ?k2z ?k3z ?_; (case k1z => k_asm); (case k2z => k_asm); (case k3z => k_mem); k_whole; intro a' h' tk' F' N' l1; (try simp only [GnNe, and_true] at l1)) | fail "none")) | walk1 | dsimp only | (leave1; walk_say "STEP leave1"; try dsimp only) | fail "no step"))
  all_goals try ((with_reducible rename News _ _ _ _ => kN9); exact News.get kN9 (by k_mem))
  exact ret_list h (by assumption) (by assumption) (by assumption) (by k_mem) (by first | exact .nil | exact .str (.nil) | exact .star .nil | exact .str (.star .nil) | exact .star (.str .nil) | exact .star (.str (.star .nil)) | exact .str (.str .nil))
theorem tr_2 {w : World} {A : Around} {s : Shared} {Q E : Value → Shared → Prop} {S : Addr} {vS : List Value} {t u : Tok} (hc : Cx w A s.heap 2) (hS : s.heap.IsList S vS.toArray)
    (h : ∀ P vs n h' tk', Kp s.heap h' → s.heap.get? P = none → h'.get? P = some (listOf vs.toArray n) → PartsAre S vs [some (Str.ofString ".")] → Q (.ref P) { s with heap := h', toks := tk' }) :
    wpAny (model prog w) A (call (.ref 82) [.str (Str.ofString "?") t, .ref S, .str (Str.ofString ".") u]) Q E s := by
  obtain ⟨dp, un, gd, cn, cs, L, a, ccd, cl, outer, A₀, base, h₀, m, mean, mg, mb, rfl, B, F, X, T, hk, h1, h2⟩ := hc
  refine wpAny_call ?_
  k_dflt (refine' code_defG ?k1 ?k2 ?k3 (News.nil) ?k5 ?kA ?kF ?kK ?k6 ?k7 ?k8 ?k9 ?kB ?_ ?c2 ?c3 ?c4 ?c5; (case kA => exact rfl); (case kF => exact rfl); (case kK => assumption); (case k1 => k_asm); (case k2 => k_asm); (case k3 => k_asm); (case k5 => k_asm); (case k6 => k_is); (case k7 => k_is); (case k8 => exact room (by assumption)); (case k9 => exact BindsTo.of_eq rfl); (case c5 => decide); (case kB => exact locs rfl); (case c2 => exact rfl); (case c3 => exact rfl); (case c4 => exact rfl); k_whole; intro _ _ _ _ _ _ _ _ _ _; (try dsimp only))
  k_fold
  (repeat' (first | (k_unfold; (try dsimp only)) | (k_end; wrow_close) | ((with_reducible show wpAny _ _ (execs (_ :: _) _) _ _ _); first | k_gentoks | ((with_reducible refine wpAny_execs_cons ?_); k_fold)) | ((first | ((with_reducible show wpAny _ _ (storeName _ _ _) _ _ _); k_dflt (refine' storeX_M ?Fz ?Nz ?_ ?az ?bz; (case Fz => k_asm); (case Nz => k_asm); (case az => rfl); (case bz => rfl); k_whole; intro _ _ _ _; (try k_sweep))) | ((with_reducible show wpAny _ _ (compareOp CmpOp.IsNot (Value.str _ _) (Value.ref _)) _ _ _); refine wpAny_isNot_other rfl (by intro e; cases e) ?_) | ((with_reducible show wpAny _ _ (call (Value.builtin "str.translate") [Value.str _ _, Value.ref _]) _ _ _); k_dflt first | (refine' trans_K (c := 97) ?k1z ?k2z ?k3z ?k4z ?k5z ?k6z ?_; (case k1z => k_asm); (case k2z => k_asm); (case k3z => k_asm); (case k4z => rfl); (case k5z => decide +kernel); (case k6z => decide); k_whole; intro t' h' tk' F' N'; (try k_sweep)) | (refine' trans_K (c := 98) ?k1z ?k2z ?k3z ?k4z ?k5z ?k6z ?_; (case k1z => k_asm); (case k2z => k_asm); (case k3z => k_asm); (case k4z => rfl); (case k5z => decide +kernel); (case k6z => decide); k_whole; intro t' h' tk' F' N'; (try k_sweep)) | (refine' trans_K (c := 39) ?k1z ?k2z ?k3z ?k4z ?k5z ?k6z ?_; (case k1z => k_asm); (case k2z => k_asm); (case k3z => k_asm); (case k4z => rfl); (case k5z => decide +kernel); (case k6z => decide); k_whole; intro t' h' tk' F' N'; (try k_sweep)) | (refine' trans_K2 ?k1z ?k2z ?k3z ?_; (case k1z => k_asm); (case k2z => k_asm); (case k3z => decide +kernel); k_whole; intro t' tk')) | (with_reducible refine getMethod_translate ?_) | ((with_reducible show wpAny _ _ (subscriptTail _ _ (Value.str _ _) (Value.int _ _)) _ _ _); (refine KXi.item (by kxi_len) (by decide) (by decide) (by decide) ?_); intro kxiE) | ((with_reducible show wpAny _ _ (callWith _ (Value.ref _) _ _ _) _ _ _); (k_dflt (refine' callWith_B ?k1z ?k2z ?_; (case k1z => k_asm); (case k2z => k_mem); k_whole))) | ((with_reducible show wpAny _ _ (call (Value.ref _) [_]) _ _ _); refine' callApp_K ?k1z ?k2z ?k3z ?k4z ?_ ?zz; (case k1z => k_asm); (case k2z => k_asm); (case k3z => k_mem); (case k4z => k_upd); (case zz => size_fits); k_whole; intro h' F' N'; (try k_sweep)) | ((with_reducible show wpAny _ _ (getAttr (Value.ref _) (PySem.Str.ofString "append") true) _ _ _); refine' getAttrApp_K ?k1z ?k2z ?k3z ?_; (case k1z => k_asm); (case k2z => k_asm); (case k3z => k_mem); k_whole; intro a' h' tk' F' N' l1; (try simp only [GnNe, and_true] at l1)) | fail "none")) | walk1 | dsimp only | (leave1; walk_say "STEP leave1"; try dsimp only) | fail "no step"))
  all_goals try ((with_reducible rename News _ _ _ _ => kN9); exact News.get kN9 (by k_mem))
  exact ret_list h (by assumption) (by assumption) (by assumption) (by k_mem) (by first | exact .nil | exact .str (.nil) | exact .star .nil | exact .str (.star .nil) | exact .star (.str .nil) | exact .star (.str (.star .nil)) | exact .str (.str .nil))
theorem tr_3 {w : World} {A : Around} {s : Shared} {Q E : Value → Shared → Prop} {S : Addr} {vS : List Value} {t u : Tok} (hc : Cx w A s.heap 2) (hS : s.heap.IsList S vS.toArray)
    (h : ∀ P vs n h' tk', Kp s.heap h' → s.heap.get? P = none → h'.get? P = some (listOf vs.toArray n) → PartsAre S vs [none, some (Str.ofString "\\ "), none] → Q (.ref P) { s with heap := h', toks := tk' }) :
    wpAny (model prog w) A (call (.ref 82) [.str (Str.ofString "* *") t, .ref S, .str (Str.ofString ".") u]) Q E s := by
  obtain ⟨dp, un, gd, cn, cs, L, a, ccd, cl, outer, A₀, base, h₀, m, mean, mg, mb, rfl, B, F, X, T, hk, h1, h2⟩ := hc
  refine wpAny_call ?_
  k_dflt (refine' code_defG ?k1 ?k2 ?k3 (News.nil) ?k5 ?kA ?kF ?kK ?k6 ?k7 ?k8 ?k9 ?kB ?_ ?c2 ?c3 ?c4 ?c5; (case kA => exact rfl); (case kF => exact rfl); (case kK => assumption); (case k1 => k_asm); (case k2 => k_asm); (case k3 => k_asm); (case k5 => k_asm); (case k6 => k_is); (case k7 => k_is); (case k8 => exact room (by assumption)); (case k9 => exact BindsTo.of_eq rfl); (case c5 => decide); (case kB => exact locs rfl); (case c2 => exact rfl); (case c3 => exact rfl); (case c4 => exact rfl); k_whole; intro _ _ _ _ _ _ _ _ _ _; (try dsimp only))
  k_fold
  (repeat' (first | (k_unfold; (try dsimp only)) | (k_end; wrow_close) | ((with_reducible show wpAny _ _ (execs (_ :: _) _) _ _ _); first | k_gentoks | ((with_reducible refine wpAny_execs_cons ?_); k_fold)) | ((first | ((with_reducible show wpAny _ _ (storeName _ _ _) _ _ _); k_dflt (refine' storeX_M ?Fz ?Nz ?_ ?az ?bz; (case Fz => k_asm); (case Nz => k_asm); (case az => rfl); (case bz => rfl); k_whole; intro _ _ _ _; (try k_sweep))) | ((with_reducible show wpAny _ _ (compareOp CmpOp.IsNot (Value.str _ _) (Value.ref _)) _ _ _); refine wpAny_isNot_other rfl (by intro e; cases e) ?_) | ((with_reducible show wpAny _ _ (call (Value.builtin "str.translate") [Value.str _ _, Value.ref _]) _ _ _); k_dflt first | (refine' trans_K (c := 97) ?k1z ?k2z ?k3z ?k4z ?k5z ?k6z ?_; (case k1z => k_asm); (case k2z => k_asm); (case k3z => k_asm); (case k4z => rfl); (case k5z => decide +kernel); (case k6z => decide); k_whole; intro t' h' tk' F' N'; (try k_sweep)) | (refine' trans_K (c := 98) ?k1z ?k2z ?k3z ?k4z ?k5z ?k6z ?_; (case k1z => k_asm); (case k2z => k_asm); (case k3z => k_asm); (case k4z => rfl); (case k5z => decide +kernel); (case k6z => decide); k_whole; intro t' h' tk' F' N'; (try k_sweep)) | (refine' trans_K (c := 39) ?k1z ?k2z ?k3z ?k4z ?k5z ?k6z ?_; (case k1z => k_asm); (case k2z => k_asm); (case k3z => k_asm); (case k4z => rfl); (case k5z => decide +kernel); (case k6z => decide); k_whole; intro t' h' tk' F' N'; (try k_sweep)) | (refine' trans_K2 ?k1z ?k2z ?k3z ?_; (case k1z => k_asm); (case k2z => k_asm); (case k3z => decide +kernel); k_whole; intro t' tk')) | (with_reducible refine getMethod_translate ?_) | ((with_reducible show wpAny _ _ (subscriptTail _ _ (Value.str _ _) (Value.int _ _)) _ _ _); (refine KXi.item (by kxi_len) (by decide) (by decide) (by decide) ?_); intro kxiE) | ((with_reducible show wpAny _ _ (callWith _ (Value.ref _) _ _ _) _ _ _); (k_dflt (refine' callWith_B ?k1z ?k2z ?_; (case k1z => k_asm); (case k2z => k_mem); k_whole))) | ((with_reducible show wpAny _ _ (call (Value.ref _) [_]) _ _ _); refine' callApp_K ?k1z ?k2z ?k3z ?k4z ?_ ?zz; (case k1z => k_asm); (case k2z => k_asm); (case k3z => k_mem); (case k4z => k_upd); (case zz => size_fits); k_whole; intro h' F' N'; (try k_sweep)) | ((with_reducible show wpAny _ _ (getAttr (Value.ref _) (PySem.Str.ofString "append") true) _ _ _); refine' getAttrApp_K ?k1z ?k2z ?k3z ?_; (case k1z => k_asm); (case k2z => k_asm); (case k3z => k_mem); k_whole; intro a' h' tk' F' N' l1; (try simp only [GnNe, and_true] at l1)) | fail "none")) | walk1 | dsimp only | (leave1; walk_say "STEP leave1"; try dsimp only) | fail "no step"))
  all_goals try ((with_reducible rename News _ _ _ _ => kN9); exact News.get kN9 (by k_mem))
  exact ret_list h (by assumption) (by assumption) (by assumption) (by k_mem) (by first | exact .nil | exact .str (.nil) | exact .star .nil | exact .str (.star .nil) | exact .star (.str .nil) | exact .star (.str (.star .nil)) | exact .str (.str .nil))
theorem tr_4 {w : World} {A : Around} {s : Shared} {Q E : Value → Shared → Prop} {S : Addr} {vS : List Value} {t u : Tok} (hc : Cx w A s.heap 2) (hS : s.heap.IsList S vS.toArray)
    (h : ∀ P vs n h' tk', Kp s.heap h' → s.heap.get? P = none → h'.get? P = some (listOf vs.toArray n) → PartsAre S vs [some (Str.ofString "'"), none] → Q (.ref P) { s with heap := h', toks := tk' }) :
    wpAny (model prog w) A (call (.ref 82) [.str (Str.ofString "'*") t, .ref S, .str (Str.ofString ".") u]) Q E s := by
  obtain ⟨dp, un, gd, cn, cs, L, a, ccd, cl, outer, A₀, base, h₀, m, mean, mg, mb, rfl, B, F, X, T, hk, h1, h2⟩ := hc
  refine wpAny_call ?_
  k_dflt (refine' code_defG ?k1 ?k2 ?k3 (News.nil) ?k5 ?kA ?kF ?kK ?k6 ?k7 ?k8 ?k9 ?kB ?_ ?c2 ?c3 ?c4 ?c5; (case kA => exact rfl); (case kF => exact rfl); (case kK => assumption); (case k1 => k_asm); (case k2 => k_asm); (case k3 => k_asm); (case k5 => k_asm); (case k6 => k_is); (case k7 => k_is); (case k8 => exact room (by assumption)); (case k9 => exact BindsTo.of_eq rfl); (case c5 => decide); (case kB => exact locs rfl); (case c2 => exact rfl); (case c3 => exact rfl); (case c4 => exact rfl); k_whole; intro _ _ _ _ _ _ _ _ _ _; (try dsimp only))
  k_fold
  (repeat' (first | (k_unfold; (try dsimp only)) | (k_end; wrow_close) | ((with_reducible show wpAny _ _ (execs (_ :: _) _) _ _ _); first | k_gentoks | ((with_reducible refine wpAny_execs_cons ?_); k_fold)) | ((first | ((with_reducible show wpAny _ _ (storeName _ _ _) _ _ _); k_dflt (refine' storeX_M ?Fz ?Nz ?_ ?az ?bz; (case Fz => k_asm); (case Nz => k_asm); (case az => rfl); (case bz => rfl); k_whole; intro _ _ _ _; (try k_sweep))) | ((with_reducible show wpAny _ _ (compareOp CmpOp.IsNot (Value.str _ _) (Value.ref _)) _ _ _); refine wpAny_isNot_other rfl (by intro e; cases e) ?_) | ((with_reducible show wpAny _ _ (call (Value.builtin "str.translate") [Value.str _ _, Value.ref _]) _ _ _); k_dflt first | (refine' trans_K (c := 97) ?k1z ?k2z ?k3z ?k4z ?k5z ?k6z ?_; (case k1z => k_asm); (case k2z => k_asm); (case k3z => k_asm); (case k4z => rfl); (case k5z => decide +kernel); (case k6z => decide); k_whole; intro t' h' tk' F' N'; (try k_sweep)) | (refine' trans_K (c := 98) ?k1z ?k2z ?k3z ?k4z ?k5z ?k6z ?_; (case k1z => k_asm); (case k2z => k_asm); (case k3z => k_asm); (case k4z => rfl); (case k5z => decide +kernel); (case k6z => decide); k_whole; intro t' h' tk' F' N'; (try k_sweep)) | (refine' trans_K (c := 39) ?k1z ?k2z ?k3z ?k4z ?k5z ?k6z ?_; (case k1z => k_asm); (case k2z => k_asm); (case k3z => k_asm); (case k4z => rfl); (case k5z => decide +kernel); (case k6z => decide); k_whole; intro t' h' tk' F' N'; (try k_sweep)) | (refine' trans_K2 ?k1z ?k2z ?k3z ?_; (case k1z => k_asm); (case k2z => k_asm); (case k3z => decide +kernel); k_whole; intro t' tk')) | (with_reducible refine getMethod_translate ?_) | ((with_reducible show wpAny _ _ (subscriptTail _ _ (Value.str _ _) (Value.int _ _)) _ _ _); (refine KXi.item (by kxi_len) (by decide) (by decide) (by decide) ?_); intro kxiE) | ((with_reducible show wpAny _ _ (callWith _ (Value.ref _) _ _ _) _ _ _); (k_dflt (refine' callWith_B ?k1z ?k2z ?_; (case k1z => k_asm); (case k2z => k_mem); k_whole))) | ((with_reducible show wpAny _ _ (call (Value.ref _) [_]) _ _ _); refine' callApp_K ?k1z ?k2z ?k3z ?k4z ?_ ?zz; (case k1z => k_asm); (case k2z => k_asm); (case k3z => k_mem); (case k4z => k_upd); (case zz => size_fits); k_whole; intro h' F' N'; (try k_sweep)) | ((with_reducible show wpAny _ _ (getAttr (Value.ref _) (PySem.Str.ofString "append") true) _ _ _); refine' getAttrApp_K ?k1z ?k2z ?k3z ?_; (case k1z => k_asm); (case k2z => k_asm); (case k3z => k_mem); k_whole; intro a' h' tk' F' N' l1; (try simp only [GnNe, and_true] at l1)) | fail "none")) | walk1 | dsimp only | (leave1; walk_say "STEP leave1"; try dsimp only) | fail "no step"))
  all_goals try ((with_reducible rename News _ _ _ _ => kN9); exact News.get kN9 (by k_mem))
  exact ret_list h (by assumption) (by assumption) (by assumption) (by k_mem) (by first | exact .nil | exact .str (.nil) | exact .star .nil | exact .str (.star .nil) | exact .star (.str .nil) | exact .star (.str (.star .nil)) | exact .str (.str .nil))
theorem tr_5 {w : World} {A : Around} {s : Shared} {Q E : Value → Shared → Prop} {S : Addr} {vS : List Value} {t u : Tok} (hc : Cx w A s.heap 2) (hS : s.heap.IsList S vS.toArray)
    (h : ∀ P vs n h' tk', Kp s.heap h' → s.heap.get? P = none → h'.get? P = some (listOf vs.toArray n) → PartsAre S vs [some (Str.ofString "."), some (Str.ofString ".")] → Q (.ref P) { s with heap := h', toks := tk' }) :
    wpAny (model prog w) A (call (.ref 82) [.str (Str.ofString "??") t, .ref S, .str (Str.ofString ".") u]) Q E s := by
  obtain ⟨dp, un, gd, cn, cs, L, a, ccd, cl, outer, A₀, base, h₀, m, mean, mg, mb, rfl, B, F, X, T, hk, h1, h2⟩ := hc
  refine wpAny_call ?_
  k_dflt (refine' code_defG ?k1 ?k2 ?k3 (News.nil) ?k5 ?kA ?kF ?kK ?k6 ?k7 ?k8 ?k9 ?kB ?_ ?c2 ?c3 ?c4 ?c5; (case kA => exact rfl); (case kF => exact rfl); (case kK => assumption); (case k1 => k_asm); (case k2 => k_asm); (case k3 => k_asm); (case k5 => k_asm); (case k6 => k_is); (case k7 => k_is); (case k8 => exact room (by assumption)); (case k9 => exact BindsTo.of_eq rfl); (case c5 => decide); (case kB => exact locs rfl); (case c2 => exact rfl); (case c3 => exact rfl); (case c4 => exact rfl); k_whole; intro _ _ _ _ _ _ _ _ _ _; (try dsimp only))
  k_fold
  (repeat' (first | (k_unfold; (try dsimp only)) | (k_end; wrow_close) | ((with_reducible show wpAny _ _ (execs (_ :: _) _) _ _ _); first | k_gentoks | ((with_reducible refine wpAny_execs_cons ?_); k_fold)) | ((first | ((with_reducible show wpAny _ _ (storeName _ _ _) _ _ _); k_dflt (refine' storeX_M ?Fz ?Nz ?_ ?az ?bz; (case Fz => k_asm); (case Nz => k_asm); (case az => rfl); (case bz => rfl); k_whole; intro _ _ _ _; (try k_sweep))) | ((with_reducible show wpAny _ _ (compareOp CmpOp.IsNot (Value.str _ _) (Value.ref _)) _ _ _); refine wpAny_isNot_other rfl (by intro e; cases e) ?_) | ((with_reducible show wpAny _ _ (call (Value.builtin "str.translate") [Value.str _ _, Value.ref _]) _ _ _); k_dflt first | (refine' trans_K (c := 97) ?k1z ?k2z ?k3z ?k4z ?k5z ?k6z ?_; (case k1z => k_asm); (case k2z => k_asm); (case k3z => k_asm); (case k4z => rfl); (case k5z => decide +kernel); (case k6z => decide); k_whole; intro t' h' tk' F' N'; (try k_sweep)) | (refine' trans_K (c := 98) ?k1z ?k2z ?k3z ?k4z ?k5z ?k6z ?_; (case k1z => k_asm); (case k2z => k_asm); (case k3z => k_asm); (case k4z => rfl); (case k5z => decide +kernel); (case k6z => decide); k_whole; intro t' h' tk' F' N'; (try k_sweep)) | (refine' trans_K (c := 39) ?k1z ?k2z ?k3z ?k4z ?k5z ?k6z ?_; (case k1z => k_asm); (case k2z => k_asm); (case k3z => k_asm); (case k4z => rfl); (case k5z => decide +kernel); (case k6z => decide); k_whole; intro t' h' tk' F' N'; (try k_sweep)) | (refine' trans_K2 ?k1z ?k2z ?k3z ?_; (case k1z => k_asm); (case k2z => k_asm); (case k3z => decide +kernel); k_whole; intro t' tk')) | (with_reducible refine getMethod_translate ?_) | ((with_reducible show wpAny _ _ (subscriptTail _ _ (Value.str _ _) (Value.int _ _)) _ _ _); (refine KXi.item (by kxi_len) (by decide) (by decide) (by decide) ?_); intro kxiE) | ((with_reducible show wpAny _ _ (callWith _ (Value.ref _) _ _ _) _ _ _); (k_dflt (refine' callWith_B ?k1z ?k2z ?_; (case k1z => k_asm); (case k2z => k_mem); k_whole))) | ((with_reducible show wpAny _ _ (call (Value.ref _) [_]) _ _ _); refine' callApp_K ?k1z ?k2z ?k3z ?k4z ?_ ?zz; (case k1z => k_asm); (case k2z => k_asm); (case k3z => k_mem); (case k4z => k_upd); (case zz => size_fits); k_whole; intro h' F' N'; (try k_sweep)) | ((with_reducible show wpAny _ _ (getAttr (Value.ref _) (PySem.Str.ofString "append") true) _ _ _); refine' getAttrApp_K ?k1z ?k2z ?k3z ?_; (case k1z => k_asm); (case k2z => k_asm); (case k3z => k_mem); k_whole; intro a' h' tk' F' N' l1; (try simp only [GnNe, and_true] at l1)) | fail "none")) | walk1 | dsimp only | (leave1; walk_say "STEP leave1"; try dsimp only) | fail "no step"))
  all_goals try ((with_reducible rename News _ _ _ _ => kN9); exact News.get kN9 (by k_mem))
  exact ret_list h (by assumption) (by assumption) (by assumption) (by k_mem) (by first | exact .nil | exact .str (.nil) | exact .star .nil | exact .str (.star .nil) | exact .star (.str .nil) | exact .star (.str (.star .nil)) | exact .str (.str .nil))
theorem tr_6 {w : World} {A : Around} {s : Shared} {Q E : Value → Shared → Prop} {S : Addr} {vS : List Value} {t u : Tok} (hc : Cx w A s.heap 2) (hS : s.heap.IsList S vS.toArray)
    (h : ∀ P vs n h' tk', Kp s.heap h' → s.heap.get? P = none → h'.get? P = some (listOf vs.toArray n) → PartsAre S vs [none] → Q (.ref P) { s with heap := h', toks := tk' }) :
    wpAny (model prog w) A (call (.ref 82) [.str (Str.ofString "*") t, .ref S, .str (Str.ofString ".") u]) Q E s := by
  obtain ⟨dp, un, gd, cn, cs, L, a, ccd, cl, outer, A₀, base, h₀, m, mean, mg, mb, rfl, B, F, X, T, hk, h1, h2⟩ := hc
  refine wpAny_call ?_
  k_dflt (refine' code_defG ?k1 ?k2 ?k3 (News.nil) ?k5 ?kA ?kF ?kK ?k6 ?k7 ?k8 ?k9 ?kB ?_ ?c2 ?c3 ?c4 ?c5; (case kA => exact rfl); (case kF => exact rfl); (case kK => assumption); (case k1 => k_asm); (case k2 => k_asm); (case k3 => k_asm); (case k5 => k_asm); (case k6 => k_is); (case k7 => k_is); (case k8 => exact room (by assumption)); (case k9 => exact BindsTo.of_eq rfl); (case c5 => decide); (case kB => exact locs rfl); (case c2 => exact rfl); (case c3 => exact rfl); (case c4 => exact rfl); k_whole; intro _ _ _ _ _ _ _ _ _ _; (try dsimp only))
  k_fold
  (repeat' (first | (k_unfold; (try dsimp only)) | (k_end; wrow_close) | ((with_reducible show wpAny _ _ (execs (_ :: _) _) _ _ _); first | k_gentoks | ((with_reducible refine wpAny_execs_cons ?_); k_fold)) | ((first | ((with_reducible show wpAny _ _ (storeName _ _ _) _ _ _); k_dflt (refine' storeX_M ?Fz ?Nz ?_ ?az ?bz; (case Fz => k_asm); (case Nz => k_asm); (case az => rfl); (case bz => rfl); k_whole; intro _ _ _ _; (try k_sweep))) | ((with_reducible show wpAny _ _ (compareOp CmpOp.IsNot (Value.str _ _) (Value.ref _)) _ _ _); refine wpAny_isNot_other rfl (by intro e; cases e) ?_) | ((with_reducible show wpAny _ _ (call (Value.builtin "str.translate") [Value.str _ _, Value.ref _]) _ _ _); k_dflt first | (refine' trans_K (c := 97) ?k1z ?k2z ?k3z ?k4z ?k5z ?k6z ?_; (case k1z => k_asm); (case k2z => k_asm); (case k3z => k_asm); (case k4z => rfl); (case k5z => decide +kernel); (case k6z => decide); k_whole; intro t' h' tk' F' N'; (try k_sweep)) | (refine' trans_K (c := 98) ?k1z ?k2z ?k3z ?k4z ?k5z ?k6z ?_; (case k1z => k_asm); (case k2z => k_asm); (case k3z => k_asm); (case k4z => rfl); (case k5z => decide +kernel); (case k6z => decide); k_whole; intro t' h' tk' F' N'; (try k_sweep)) | (refine' trans_K (c := 39) ?k1z ?k2z ?k3z ?k4z ?k5z ?k6z ?_; (case k1z => k_asm); (case k2z => k_asm); (case k3z => k_asm); (case k4z => rfl); (case k5z => decide +kernel); (case k6z => decide); k_whole; intro t' h' tk' F' N'; (try k_sweep)) | (refine' trans_K2 ?k1z ?k2z ?k3z ?_; (case k1z => k_asm); (case k2z => k_asm); (case k3z => decide +kernel); k_whole; intro t' tk')) | (with_reducible refine getMethod_translate ?_) | ((with_reducible show wpAny _ _ (subscriptTail _ _ (Value.str _ _) (Value.int _ _)) _ _ _); (refine KXi.item (by kxi_len) (by decide) (by decide) (by decide) ?_); intro kxiE) | ((with_reducible show wpAny _ _ (callWith _ (Value.ref _) _ _ _) _ _ _); (k_dflt (refine' callWith_B ?k1z ?k2z ?_; (case k1z => k_asm); (case k2z => k_mem); k_whole))) | ((with_reducible show wpAny _ _ (call (Value.ref _) [_]) _ _ _); refine' callApp_K ?k1z ?k2z ?k3z ?k4z ?_ ?zz; (case k1z => k_asm); (case k2z => k_asm); (case k3z => k_mem); (case k4z => k_upd); (case zz => size_fits); k_whole; intro h' F' N'; (try k_sweep)) | ((with_reducible show wpAny _ _ (getAttr (Value.ref _) (PySem.Str.ofString "append") true) _ _ _); refine' getAttrApp_K ?k1z ?k2z ?k3z ?_; (case k1z => k_asm); (case k2z => k_asm); (case k3z => k_mem); k_whole; intro a' h' tk' F' N' l1; (try simp only [GnNe, and_true] at l1)) | fail "none")) | walk1 | dsimp only | (leave1; walk_say "STEP leave1"; try dsimp only) | fail "no step"))
  all_goals try ((with_reducible rename News _ _ _ _ => kN9); exact News.get kN9 (by k_mem))
  exact ret_list h (by assumption) (by assumption) (by assumption) (by k_mem) (by first | exact .nil | exact .str (.nil) | exact .star .nil | exact .str (.star .nil) | exact .star (.str .nil) | exact .star (.str (.star .nil)) | exact .str (.str .nil))
end
section
theorem tr_br_spec {w : World} {A : Around} {s : Shared} {Q E : Value → Shared → Prop} {S : Addr} {vS : List Value} {t u : Tok} {ps : Array Value} (hc : CxN w A s.heap 2 [(77, tabObj ps)]) (hS : s.heap.IsList S vS.toArray) (hS7 : S ≠ 77) (hok : TabOk ⟨104, 46, 104, 83⟩ ps)
    (h : ∀ P vs n ps' h' tk', Kx [77] s.heap h' → s.heap.get? P = none → h'.get? P = some (listOf vs.toArray n) → PartsAre S vs [some (Str.ofString "[^a]"), none] → h'.get? 77 = some (tabObj ps') → TabOk posL ps' → Q (.ref P) { s with heap := h', toks := tk' }) :
    wpAny (model prog w) A (call (.ref 82) [.str (Str.ofString "[!a]*") t, .ref S, .str (Str.ofString ".") u]) Q E s := by
  obtain ⟨dp, un, gd, cn, cs, L, a, ccd, cl, outer, A₀, base, h₀, m, mean, mg, mb, rfl, B, F, X, T, hk, h1, h2, N⟩ := hc
  have hCode := codeHd_of_K (c := 81) (P := 77) X (by kernel_rfl)
  refine wpAny_call ?_
  k_dflt (refine' code_defG ?k1 ?k2 ?k3 ?k4 ?k5 ?kA ?kF ?kK ?k6 ?k7 ?k8 ?k9 ?kB ?_ ?c2 ?c3 ?c4 ?c5; (case kA => exact rfl); (case kF => exact rfl); (case kK => assumption); (case k1 => k_asm); (case k2 => k_asm); (case k3 => k_asm); (case k4 => k_asm); (case k5 => k_asm); (case k6 => k_is); (case k7 => k_is); (case k8 => exact room (by assumption)); (case k9 => exact BindsTo.of_eq rfl); (case c5 => decide); (case kB => exact locs rfl); (case c2 => exact rfl); (case c3 => exact rfl); (case c4 => exact rfl); k_whole; intro _ _ _ _ _ _ _ _ _ _; (try dsimp only))
  k_fold
  (repeat' (first | (k_unfold; (try dsimp only)) | (k_end; wrow_close) | ((with_reducible show wpAny _ _ (execs (_ :: _) _) _ _ _); first | k_gentoks | ((with_reducible refine wpAny_execs_cons ?_); k_fold)) | ((first | ((with_reducible show wpAny _ _ (storeName _ _ _) _ _ _); k_dflt (refine' storeX_M ?Fz ?Nz ?_ ?az ?bz; (case Fz => k_asm); (case Nz => k_asm); (case az => rfl); (case bz => rfl); k_whole; intro _ _ _ _; (try k_sweep))) | ((with_reducible show wpAny _ _ (eval (PySem.Expr.Lambda _ _ _ _) _) _ _ _); (k_dflt (refine' kla_eval ?d0z ?_; (case d0z => exact rfl)); k_dflt (refine' lam_K ?Fz ?Nz ?Tz ?Cz ?cdz ?Uz ?tz ?clz ?_; (case Fz => k_asm); (case Nz => k_asm); (case Tz => k_asm); (case cdz => exact rfl); (case Cz => first | assumption | exact CodeHd.keeps (by assumption) (Fr.keep (by assumption))); (case Uz => k_updF); (case tz => assumption); (case clz => exact rfl); k_whole); intro f' fd' ps' h' tk' F' N' hok' l1; (try dsimp only at N'); (try k_lt l1))) | ((with_reducible show wpAny _ _ (compareOp CmpOp.NotIn (Value.str _ _) (Value.str _ _)) _ _ _); refine notin_lit (b := true) (by decide +kernel) ?_) | ((with_reducible show wpAny _ _ (call (Value.builtin "str.replace") [Value.str _ _, Value.str _ _, Value.str _ _]) _ _ _); refine replace_none (by decide +kernel) ?_; intro t' k') | ((with_reducible show wpAny _ _ (call (Value.builtin "re.Pattern.sub") _) _ _ _); (k_dflt (refine' sub_K ?k1z ?k2z ?k3z ?k4z ?k5z ?_; (case k1z => k_asm); (case k2z => k_asm); (case k3z => k_asm); (case k4z => k_mem); (case k5z => decide +kernel); k_whole; intro t' h' tk' F' N'; (try k_sweep)))) | ((with_reducible show wpAny _ _ (getMethod (Value.ref 63) _ _) _ _ _); refine' getMethod_sub ?k1z ?k2z ?_; (case k1z => k_asm); (case k2z => k_asm)) | ((with_reducible show wpAny _ _ (compareOp CmpOp.IsNot (Value.str _ _) (Value.ref _)) _ _ _); refine wpAny_isNot_other rfl (by intro e; cases e) ?_) | ((with_reducible show wpAny _ _ (call (Value.builtin "str.translate") [Value.str _ _, Value.ref _]) _ _ _); k_dflt first | (refine' trans_K (c := 97) ?k1z ?k2z ?k3z ?k4z ?k5z ?k6z ?_; (case k1z => k_asm); (case k2z => k_asm); (case k3z => k_asm); (case k4z => rfl); (case k5z => decide +kernel); (case k6z => decide); k_whole; intro t' h' tk' F' N'; (try k_sweep)) | (refine' trans_K (c := 98) ?k1z ?k2z ?k3z ?k4z ?k5z ?k6z ?_; (case k1z => k_asm); (case k2z => k_asm); (case k3z => k_asm); (case k4z => rfl); (case k5z => decide +kernel); (case k6z => decide); k_whole; intro t' h' tk' F' N'; (try k_sweep)) | (refine' trans_K (c := 39) ?k1z ?k2z ?k3z ?k4z ?k5z ?k6z ?_; (case k1z => k_asm); (case k2z => k_asm); (case k3z => k_asm); (case k4z => rfl); (case k5z => decide +kernel); (case k6z => decide); k_whole; intro t' h' tk' F' N'; (try k_sweep)) | (refine' trans_K2 ?k1z ?k2z ?k3z ?_; (case k1z => k_asm); (case k2z => k_asm); (case k3z => decide +kernel); k_whole; intro t' tk')) | (with_reducible refine getMethod_translate ?_) | ((with_reducible show wpAny _ _ (subscriptTail _ _ (Value.str _ _) (Value.int _ _)) _ _ _); (refine KXi.item (by kxi_len) (by decide) (by decide) (by decide) ?_); intro kxiE) | ((with_reducible show wpAny _ _ (callWith _ (Value.ref _) _ _ _) _ _ _); (k_dflt (refine' callWith_B ?k1z ?k2z ?_; (case k1z => k_asm); (case k2z => k_mem); k_whole))) | ((with_reducible show wpAny _ _ (call (Value.ref _) [_]) _ _ _); refine' callApp_K ?k1z ?k2z ?k3z ?k4z ?_ ?zz; (case k1z => k_asm); (case k2z => k_asm); (case k3z => k_mem); (case k4z => k_upd); (case zz => size_fits); k_whole; intro h' F' N'; (try k_sweep)) | ((with_reducible show wpAny _ _ (getAttr (Value.ref _) (PySem.Str.ofString "append") true) _ _ _); refine' getAttrApp_K ?k1z ?k2z ?k3z ?_; (case k1z => k_asm); (case k2z => k_asm); (case k3z => k_mem); k_whole; intro a' h' tk' F' N' l1; (try simp only [GnNe, and_true] at l1)) | fail "none")) | walk1 | dsimp only | (leave1; walk_say "STEP leave1"; try dsimp only) | fail "no step"))
  all_goals try ((with_reducible rename News _ _ _ _ => kN9); exact News.get kN9 (by k_mem))
  exact ret_listT h (by assumption) (by assumption) (by assumption) (by k_mem) (by (refine neN ?_; omega)) (by k_mem) (by assumption) (.strE (by decide +kernel) (.star .nil))
end
section
noncomputable def partsL : List (List (Option Str)) := [[some (Str.ofString "a"), none], [none, some (Str.ofString "b")], [some (Str.ofString ".")], [some (Str.ofString "[^a]"), none], [none, some (Str.ofString "\\ "), none], [some (Str.ofString "'"), none], [some (Str.ofString "."), some (Str.ofString ".")], [none]]
noncomputable def partsOf (glob : Str) : List (Option Str) := partsL.getD (menu.idxOf glob) []
theorem tr_spec {w : World} {A : Around} {s : Shared} {Q E : Value → Shared → Prop} {glob : Str} {S : Addr} {vS : List Value} {t u : Tok} {ps : Array Value} (hc : CxN w A s.heap 2 [(77, tabObj ps)]) (hS : s.heap.IsList S vS.toArray) (hS7 : S ≠ 77) (hok : TabOk posL ps) (hg : glob ∈ menu)
    (h : ∀ P vs n ps' h' tk', Kx [77] s.heap h' → s.heap.get? P = none → h'.get? P = some (listOf vs.toArray n) → PartsAre S vs (partsOf glob) → h'.get? 77 = some (tabObj ps') → TabOk posL ps' → Q (.ref P) { s with heap := h', toks := tk' }) :
    wpAny (model prog w) A (call (.ref 82) [.str glob t, .ref S, .str (Str.ofString ".") u]) Q E s := by
  have h7 := hc.get (.head _)
  have k : ∀ (ps0 : List (Option Str)), partsOf glob = ps0 → ∀ P vs n h' tk', Kp s.heap h' → s.heap.get? P = none → h'.get? P = some (listOf vs.toArray n) → PartsAre S vs ps0 → Q (.ref P) { s with heap := h', toks := tk' } :=
    fun ps0 e P vs n h' tk' k a b c => h P vs n ps h' tk' k.kx a b (e ▸ c) (k _ _ h7) hok
  simp only [menu, List.mem_cons, List.not_mem_nil, or_false] at hg
  rcases hg with rfl | rfl | rfl | rfl | rfl | rfl | rfl | rfl
  · exact tr_0 hc.cx hS (k [some (Str.ofString "a"), none] (by decide +kernel))
  · exact tr_1 hc.cx hS (k [none, some (Str.ofString "b")] (by decide +kernel))
  · exact tr_2 hc.cx hS (k [some (Str.ofString ".")] (by decide +kernel))
  · exact tr_br_spec hc hS hS7 hok (fun P vs n ps1 h1 tk1 a1 a2 a3 a4 a5 a6 => h P vs n ps1 h1 tk1 a1 a2 a3 ((by decide +kernel : [some (Str.ofString "[^a]"), none] = partsOf (Str.ofString "[!a]*")) ▸ a4) a5 a6)
  · exact tr_3 hc.cx hS (k [none, some (Str.ofString "\\ "), none] (by decide +kernel))
  · exact tr_4 hc.cx hS (k [some (Str.ofString "'"), none] (by decide +kernel))
  · exact tr_5 hc.cx hS (k [some (Str.ofString "."), some (Str.ofString ".")] (by decide +kernel))
  · exact tr_6 hc.cx hS (k [none] (by decide +kernel))
end
section
noncomputable def takesS (part sign : Str) : Bool := if part == Str.ofString "." then true else if Txt.slice part none (some 2) == Str.ofString "[^" then !!(Builtin.Str.occurrences (Txt.slice part (some 2) (some (-1))) sign 0 (Txt.slice part (some 2) (some (-1))).length 1).isEmpty else sign == Txt.slice part (some (-1)) none
theorem takesS_1 {part sign : Str} (e : (part == Str.ofString ".") = true) : takesS part sign = true := by unfold takesS; rw [if_pos e]
theorem takesS_2 {part sign : Str} (e : (part == Str.ofString ".") = false) (e2 : (Txt.slice part none (some 2) == Str.ofString "[^") = true) :
    takesS part sign = !!(Builtin.Str.occurrences (Txt.slice part (some 2) (some (-1))) sign 0 (Txt.slice part (some 2) (some (-1))).length 1).isEmpty := by unfold takesS; rw [e, e2]; rfl
theorem takesS_3 {part sign : Str} (e : (part == Str.ofString ".") = false) (e2 : (Txt.slice part none (some 2) == Str.ofString "[^") = false) :
    takesS part sign = (sign == Txt.slice part (some (-1)) none) := by unfold takesS; rw [e, e2]; rfl
theorem takes_spec {w : World} {A : Around} {s : Shared} {Q E : Value → Shared → Prop} {part sign : Str} {t u : Tok} (hc : Cx w A s.heap 1) (hl : part.length ≤ 10) (hl2 : sign.length ≤ 10)
    (h : ∀ h' tk', Kp s.heap h' → Q (.bool (takesS part sign)) { s with heap := h', toks := tk' }) :
    wpAny (model prog w) A (call (.ref 814) [.str part t, .str sign u]) Q E s := by
  obtain ⟨dp, un, gd, cn, cs, L, a, ccd, cl, outer, A₀, base, h₀, m, mean, mg, mb, rfl, B, F, X, T, hk, h1, h2⟩ := hc
  refine wpAny_call ?_
  k_dflt (refine' code_defG ?k1 ?k2 ?k3 (News.nil) ?k5 ?kA ?kF ?kK ?k6 ?k7 ?k8 ?k9 ?kB ?_ ?c2 ?c3 ?c4 ?c5; (case kA => exact rfl); (case kF => exact rfl); (case kK => assumption); (case k1 => k_asm); (case k2 => k_asm); (case k3 => k_asm); (case k5 => k_asm); (case k6 => k_is); (case k7 => k_is); (case k8 => exact room (by assumption)); (case k9 => exact BindsTo.of_eq rfl); (case c5 => decide); (case kB => exact locs rfl); (case c2 => exact rfl); (case c3 => exact rfl); (case c4 => exact rfl); k_whole; intro _ _ _ _ _ _ _ _ _ _; (try dsimp only))
  k_fold
  k_steps
  · exact ret_bool h (takesS_1 (by assumption)) (kp_of (by assumption) (by assumption))
  · exact ret_bool h (takesS_2 (by assumption) (by assumption)) (kp_of (by assumption) (by assumption))
  · exact ret_bool h (takesS_3 (by assumption) (by assumption)) (kp_of (by assumption) (by assumption))
end
section
section
variable {w : World} {A : Around} {E : Value → Shared → Prop} {s : Shared} {g : Heap} {L : Addr} {m : Str → Option Value} {news : List (Addr × Obj)}
theorem cxN_deeper {dp un c : Nat} {gd : Option (List Code)} {cn cn' : Str} {cs cs' : Scope} {L0 a a' : Addr} {ccd ccd' : Value} {cl cl' : List (Str × Addr)} {outer : List Env} {base h : Heap} {mean : ExcName → Option Value} {mg mb : Str → Option Value}
    (B : Below (ktrTop dp un gd cn cs L0 a ccd cl outer) base (envX cn cs L0 a ccd cl :: outer) g) (F : Fr g L h m) (X : (tKf w.params).In g) (T : Top topProg loose mean mg mb g) (hk : cs'.kind = .function) (h1 : dp + (c + 1) < 1000) (h2 : un + 10 * (c + 1) + 1000 < 9900) (N : News g L h news) :
    CxN w ((ktrTop dp un gd cn cs L0 a ccd cl outer).deeper (envX cn' cs' L a' ccd' cl')) h c news :=
  ⟨dp + 1, un + 3, gd, cn', cs', L, a', ccd', cl', _, _, base, g, m, mean, mg, mb, rfl, B, F, X, T, hk, by omega, by omega, N⟩
theorem news_one {h : Heap} {p : Addr × Obj} (N : News g L h news) (hm : p ∈ news) : News g L h [p] := fun q hq => by rw [List.mem_singleton.mp hq]; exact N p hm
theorem news_sub {h : Heap} {news' : List (Addr × Obj)} (N : News g L h news) (hs : ∀ p ∈ news', p ∈ news) : News g L h news' := fun p hp => N p (hs p hp)
theorem fr_kx {h h' : Heap} {o : Obj} (F : Fr g L h m) (k : Kx [77] h h') (hg : g.get? 77 = none) (hL : 77 ≠ L) : Fr g L h' m :=
  ⟨F.ns.at' fun o e => k _ o (by simpa using Ne.symm hL) e, fun b o e => k b o (by simp; rintro rfl; rw [hg] at e; cases e) (F.keep b o e), F.above⟩
theorem tr_K {glob : Str} {S : Addr} {vS : List Value} {t u : Tok} {ps : Array Value} {gU : Obj → List (Addr × Obj)} {Q : Value → Shared → Prop} (hc : CxN w A s.heap 2 [(77, tabObj ps)]) (F : Fr g L s.heap m) (N : News g L s.heap news) (U : UpdF 77 (tabObj ps) news gU)
    (hS : s.heap.IsList S vS.toArray) (hS7 : S ≠ 77) (hok : TabOk posL ps) (hg : glob ∈ menu)
    (h : ∀ P vs n ps' h' tk', Fr g L h' m → News g L h' ((P, listOf vs.toArray n) :: gU (tabObj ps')) → (∀ p ∈ news, p.1 ≠ P) → PartsAre S vs (partsOf glob) → TabOk posL ps' → Q (.ref P) { s with heap := h', toks := tk' }) :
    wpAny (model Mine.prog w) A (call (.ref 82) [.str glob t, .ref S, .str (Str.ofString ".") u]) Q E s := by
  obtain ⟨pre, post, rfl, hgU, p1, p2⟩ := U.split
  have h77 := N (77, tabObj ps) (List.mem_append_right _ (.head _))
  refine tr_spec hc hS hS7 hok hg fun P vs n ps' h' tk' k hP hP' hpa ht hok' => ?_
  have hne : ∀ p ∈ pre ++ (77, tabObj ps) :: post, p.1 ≠ P := fun p hp e => by have := (N p hp).1; rw [e, hP] at this; cases this
  refine h P vs n ps' h' tk' (fr_kx (o := default) F k h77.2.2 h77.2.1) ?_ hne hpa hok'
  rw [hgU]
  intro p hp
  have up : ∀ q ∈ pre ++ (77, tabObj ps) :: post, q.1 ≠ 77 → h'.get? q.1 = some q.2 ∧ q.1 ≠ L ∧ g.get? q.1 = none := fun q hq hq7 => ⟨k _ _ (by simpa using hq7) (N q hq).1, (N q hq).2⟩
  rcases List.mem_cons.mp hp with rfl | hp
  · refine ⟨hP', ?_, ?_⟩
    · rintro rfl; obtain ⟨o', _, _, ho, _⟩ := F.ns; rw [hP] at ho; cases ho
    · cases q : g.get? P with
      | none => rfl
      | some o' => have := F.keep _ _ q; rw [hP] at this; cases this
  · rcases List.mem_append.mp hp with hp | hp
    · exact up p (List.mem_append_left _ hp) (p1 p hp)
    · rcases List.mem_cons.mp hp with rfl | hp
      · exact ⟨ht, h77.2⟩
      · exact up p (List.mem_append_right _ (.tail _ hp)) (p2 p hp)
end
end
section
noncomputable def lenI (name : Str) : Int := (name.length : Int)
noncomputable def pStar (ends : List Int) (k : Int) : Bool := !(decide (ends = [])) && decide (ends.getD 0 0 ≤ k)
noncomputable def pStr (name x : Str) (e : Int) : Bool := decide (e < (name.length : Int)) && takesS x (Txt.item name e)
noncomputable def endsStep (name : Str) (ends : List Int) : Option Str → List Int
  | none => (rangeKs 0 (name.length + 1)).filter (pStar ends)
  | some x => (ends.filter (pStr name x)).map (· + 1)
noncomputable def opensS (glob name : Str) : Bool := decide ((name.length : Int) ∈ (partsOf glob).foldl (endsStep name) [0])
noncomputable def openedF (globs names : List Str) : List Str := globs.flatMap fun glob => names.filter (opensS glob)
theorem PartsAre.get {S : Addr} : ∀ {vs : List Value} {ps : List (Option Str)}, PartsAre S vs ps → ∀ {k : Nat} {v : Value}, vs[k]? = some v → (v = .ref S ∧ ps[k]? = some none) ∨ ∃ x t, v = .str x t ∧ ps[k]? = some (some x)
  | _, _, .star h, 0, v, e => by simp at e; exact .inl ⟨e.symm, rfl⟩
  | _, _, .star h, k + 1, v, e => by simpa using h.get (k := k) (by simpa using e)
  | _, _, .str (x := x) (t := t) h, 0, v, e => by simp at e; exact .inr ⟨x, t, e.symm, rfl⟩
  | _, _, .str h, k + 1, v, e => by simpa using h.get (k := k) (by simpa using e)
theorem PartsAre.length {S : Addr} : ∀ {vs : List Value} {ps : List (Option Str)}, PartsAre S vs ps → vs.length = ps.length
  | _, _, .nil => rfl
  | _, _, .star h => by simp [h.length]
  | _, _, .str h => by simp [h.length]
theorem take_foldl {α β : Type} (f : β → α → β) (b : β) (l : List α) (k : Nat) (a : α) (h : l[k]? = some a) : (l.take (k + 1)).foldl f b = f ((l.take k).foldl f b) a := by
  rw [List.take_add_one, h]; simp
theorem ends_ok (name : Str) : ∀ (ps : List (Option Str)) (e0 : List Int), (∀ e ∈ e0, 0 ≤ e) → e0.length ≤ name.length + 1 → (∀ e ∈ ps.foldl (endsStep name) e0, 0 ≤ e) ∧ (ps.foldl (endsStep name) e0).length ≤ name.length + 1
  | [], e0, h1, h2 => ⟨h1, h2⟩
  | none :: ps, e0, h1, h2 => ends_ok name ps _ (fun e he => (mem_rangeKs (List.mem_filter.mp he).1).1) (Nat.le_trans (List.length_filter_le _ _) (by rw [rangeKs_length]; exact Nat.le_refl _))
  | some x :: ps, e0, h1, h2 => ends_ok name ps _ (fun e he => by
      obtain ⟨e', he', rfl⟩ := List.mem_map.mp he
      have := h1 e' (List.mem_filter.mp he').1
      omega) (by show ((e0.filter _).map _).length ≤ _; rw [List.length_map]; exact Nat.le_trans (List.length_filter_le _ _) h2)
theorem parts_small {glob : Str} (hg : glob ∈ menu) : ∀ x, some x ∈ partsOf glob → x.length ≤ 10 := by
  have : (menu.all fun g => (partsOf g).all fun p => match p with | none => true | some x => decide (x.length ≤ 10)) = true := by decide +kernel
  intro x hx
  have h1 := List.all_eq_true.mp (List.all_eq_true.mp this glob hg) _ hx
  exact of_decide_eq_true h1
theorem ints_from : ∀ (m : Nat) (us : List Value) (b : Int), us.length = m → (∀ (j : Nat) (v : Value), us[j]? = some v → ∃ t : Tok, v = Value.int (b + (j : Int)) t) → IntsAre us (rangeKs b m)
  | 0, us, b, hl, _ => by
    obtain rfl := List.length_eq_zero_iff.mp hl
    exact .nil
  | m + 1, [], b, hl, _ => nomatch hl
  | m + 1, u :: us, b, hl, h => by
    obtain ⟨t, rfl⟩ := h 0 u rfl
    have q : rangeKs b (m + 1) = (b + ((0 : Nat) : Int)) :: rangeKs (b + 1) m := by
      simp only [rangeKs, List.range_succ_eq_map, List.map_cons, List.map_map]
      congr 1
      apply List.map_congr_left
      intro i _
      simp only [Function.comp]
      omega
    rw [q]
    refine .cons _ _ (ints_from m us (b + 1) (by simpa using hl) fun j v e => ?_)
    obtain ⟨t, rfl⟩ := h (j + 1) v (by simpa using e)
    exact ⟨t, by congr 1; omega⟩
theorem ints_of_walk {a : Int} {n : Nat} {vs : List Value} (hl : vs.length = n) (h : ∀ (j : Nat) (v : Value), vs[j]? = some v → j < n ∧ ∃ t : Tok, v = Value.int (a + (j : Int) * 1) t) : IntsAre vs (rangeKs a n) :=
  ints_from n vs a hl fun j v e => by obtain ⟨_, t, rfl⟩ := h j v e; exact ⟨t, by rw [Int.mul_one]⟩
theorem ints_filter {p : Value → Bool} {pz : Int → Bool} (hp : ∀ k t, p (.int k t) = pz k) : ∀ {vs : List Value} {ns : List Int}, IntsAre vs ns → IntsAre (vs.filter p) (ns.filter pz)
  | _, _, .nil => .nil
  | _, _, .cons n t h => by
    rw [List.filter_cons, List.filter_cons, hp]
    cases pz n with
    | true => exact .cons _ _ (ints_filter hp h)
    | false => exact ints_filter hp h
theorem paired_eq : ∀ {vs ys : List Value}, Paired (fun v y => v = y) vs ys → vs = ys
  | _, _, .nil => rfl
  | _, _, .cons h r => by rw [h, paired_eq r]
theorem paired_map {f : Int → Int} : ∀ {ns : List Int} {vs ys : List Value}, Paired (fun v y => ∃ e t t', v = Value.int e t ∧ y = Value.int (f e) t') vs ys → IntsAre vs ns → IntsAre ys (ns.map f) := by
  intro ns
  induction ns with
  | nil => intro vs ys h i; cases i; cases h; exact .nil
  | cons n ns ih =>
    intro vs ys h i
    cases i with
    | cons _ u i' =>
      cases h with
      | cons h1 r =>
        obtain ⟨e, t, t', q1, q2⟩ := h1
        cases q1; subst q2
        exact .cons _ _ (ih r i')
section
variable {g : Heap} {L : Addr} {m : Str → Option Value} {news : List (Addr × Obj)}
theorem fr_but {h h' : Heap} {I : Addr} (F : Fr g L h m) (k : ∀ b o, b ∉ [I] → h.get? b = some o → h'.get? b = some o) (hg : g.get? I = none) (hL : I ≠ L) : Fr g L h' m :=
  ⟨F.ns.at' fun o e => k _ o (by simpa using Ne.symm hL) e, fun b o e => k b o (by simp; rintro rfl; rw [hg] at e; cases e) (F.keep b o e), F.above⟩
theorem news_but {h h' : Heap} {I : Addr} (N : News g L h news) (k : ∀ b o, b ∉ [I] → h.get? b = some o → h'.get? b = some o) (hn : ∀ p ∈ news, p.1 ≠ I) : News g L h' news := fun p hp => ⟨k _ _ (by simpa using hn p hp) (N p hp).1, (N p hp).2⟩
end
end
section
/-- what a comprehension's source must be, seen from the state before it -/
noncomputable def SrcOk (w : World) (A : Around) (n : Nat) (P : Nat → Value → Prop) (s : Shared) (it : Value) (s₂ : Shared) : Prop :=
  ∃ h₂ tk₂ I fp wr St, s₂ = { s with heap := h₂, toks := tk₂ } ∧ it = .ref I ∧ Walks Mine.prog w A I fp wr n P St ∧ n ≤ sizeLine ∧ St 0 h₂ ∧ (∀ b ∈ fp, b < h₂.objs.size) ∧ (∀ b ∈ wr, s.heap.objs.size ≤ b) ∧ Kp s.heap h₂
section
variable {w : World} {A : Around} {E : Value → Shared → Prop} {env : Env}
theorem src_list {s s₁ : Shared} {l : Addr} {vs : List Value} {h₁ : Heap} {tk₁ : Nat} (hh : A.handled = none) (he : s₁ = { s with heap := h₁, toks := tk₁ }) (k : Kp s.heap h₁) (hs : s.heap.objs.size ≤ h₁.objs.size) (hl : h₁.IsList l vs.toArray) (hn : vs.length ≤ sizeLine) :
    wpAny (model Mine.prog w) A (pyIter (.ref l)) (SrcOk w A vs.length (fun i v => vs[i]? = some v) s) E s₁ := by
  subst he
  have hlt : l < h₁.objs.size := by obtain ⟨o, ho, _⟩ := id hl; exact Heap.lt_size ho
  refine wpAny_pyIter_list hl ?_
  have W := Walks.list (prog := Mine.prog) (w := w) hh h₁.objs.size l (Nat.ne_of_lt hlt) vs.toArray
  refine ⟨_, _, h₁.objs.size, [h₁.objs.size, l], [h₁.objs.size], fun i h => h.IsListIter h₁.objs.size l i ∧ h.IsList l vs.toArray, rfl, rfl, ?_, hn, ⟨⟨_, Heap.get?_push_size _ rfl, rfl, rfl⟩, hl.at fun o e => Heap.get?_push_of_some _ e⟩, ?_, ?_, ?_⟩
  · have e : vs.toArray.size = vs.length := by simp
    rw [e] at W
    simpa using W
  · intro b hb
    rw [Heap.size_push]
    simp at hb
    rcases hb with rfl | rfl
    · exact Nat.lt_succ_self _
    · exact Nat.lt_succ_of_lt hlt
  · intro b hb
    simp at hb
    subst hb
    exact hs
  · exact fun b o e => Heap.get?_push_of_some _ (k b o e)
theorem src_range {s s₁ : Shared} {r : Addr} {a b c : Int} {t u v : Tok} {n : Nat} {h₁ : Heap} {tk₁ : Nat} (hh : A.handled = none) (he : s₁ = { s with heap := h₁, toks := tk₁ }) (k : Kp s.heap h₁) (hs : s.heap.objs.size ≤ h₁.objs.size)
    (hr : IsRange h₁ r a b c t u v) (hsmall : Builtin.Range.small a b c = true) (hn : Builtin.Range.rangeSize a b c = (n : Int)) (hsz : n ≤ sizeLine) :
    wpAny (model Mine.prog w) A (pyIter (.ref r)) (SrcOk w A n (fun i v => i < n ∧ ∃ t, v = .int (a + i * c) t) s) E s₁ := by
  subst he
  refine wpAny_pyIter_range hr hsmall ?_
  refine ⟨_, _, h₁.objs.size, _, _, _, rfl, rfl, (Walks.range hh _ a c n).bound, hsz, (by show IsRangeIter _ _ _ _ _; rw [hn]; simpa using Heap.get?_push_size _ rfl), ?_, ?_, ?_⟩
  · intro b hb
    simp at hb
    subst hb
    rw [Heap.size_push]; exact Nat.lt_succ_self _
  · intro b hb
    simp at hb
    subst hb
    exact hs
  · exact fun b o e => Heap.get?_push_of_some _ (k b o e)
/-- tests and element, from a frame and a ledger that stand -/
structure QuietL (w : World) (A : Around) (env : Env) (scope : Scope) (cl : List (Str × Addr)) (x : Str) (ifs : List PySem.Expr) (elt : PySem.Expr) (n : Nat) (P : Nat → Value → Prop) (p : Value → Bool) (F : Value → Value → Prop)
    (g : Heap) (L : Addr) (m : Str → Option Value) (news : List (Addr × Obj)) : Prop where
  tests : ∀ C i v (s₃ : Shared) m₃ E', P i v → s₃.heap.Ns (compEnvC scope cl C env).locals m₃ → m₃ x = some v → Fr g L s₃.heap m → News g L s₃.heap news →
    wpAny (model Mine.prog w) A (forIn ifs true fun c r => if r = true then do let ok ← isTrue c (compEnvC scope cl C env) (eval c (compEnvC scope cl C env)); pure (ForInStep.yield ok) else pure (ForInStep.yield r))
      (fun ok s₄ => ok = p v ∧ Keeps s₃ s₄) E' s₃
  elt : ∀ C i v (s₃ : Shared) m₃ E', P i v → p v = true → s₃.heap.Ns (compEnvC scope cl C env).locals m₃ → m₃ x = some v → Fr g L s₃.heap m → News g L s₃.heap news →
    wpAny (model Mine.prog w) A (eval elt (compEnvC scope cl C env)) (fun y s₄ => F v y ∧ Keeps s₃ s₄) E' s₃
theorem quiet_of {s : Shared} {scope : Scope} {cl : List (Str × Addr)} {x : Str} {ifs : List PySem.Expr} {elt : PySem.Expr} {n : Nat} {P : Nat → Value → Prop} {p : Value → Bool} {F : Value → Value → Prop} {g : Heap} {L : Addr} {m : Str → Option Value} {news : List (Addr × Obj)} {h₂ : Heap} {tk₂ : Nat} {wr : List Addr}
    (Fr0 : Fr g L s.heap m) (N0 : News g L s.heap news) (k : Kp s.heap h₂) (hw : ∀ b ∈ wr, s.heap.objs.size ≤ b) (q : QuietL w A env scope cl x ifs elt n P p F g L m news) : QuietOnC Mine.prog w A env scope cl x ifs elt wr P p F { s with heap := h₂, toks := tk₂ } := by
  have up : ∀ {s₃ : Shared}, (∀ b o, b ∉ wr → h₂.get? b = some o → s₃.heap.get? b = some o) → Kp s.heap s₃.heap := fun hk b o e => hk b o (fun hb => Nat.lt_irrefl _ (Nat.lt_of_lt_of_le (Heap.lt_size e) (hw b hb))) (k b o e)
  exact ⟨fun C i v s₃ m₃ E' _ hP hn hm hk _ => q.tests C i v s₃ m₃ E' hP hn hm (Fr0.keeps (up hk)) (N0.grown (up hk)), fun C i v s₃ m₃ E' _ hP hp hn hm hk _ => q.elt C i v s₃ m₃ E' hP hp hn hm (Fr0.keeps (up hk)) (N0.grown (up hk))⟩
/-- [.. for x in ..] for its value -/
theorem compL {s : Shared} {elt iter : PySem.Expr} {x : Str} {px : Pos} {ifs : List PySem.Expr} {scope : Scope} {cl : List (Str × Addr)} {pos : Pos} {Q : Value → Shared → Prop}
    {g : Heap} {m : Str → Option Value} {news : List (Addr × Obj)} {n : Nat} {P : Nat → Value → Prop}
    (p : Value → Bool) (F : Value → Value → Prop)
    (Fr0 : Fr g env.locals s.heap m) (N0 : News g env.locals s.heap news)
    (hclos : closureFor scope env = pure cl) (hcell : ∀ z ∈ scope.names, z.2 ≠ .cell) (hkind : scope.kind = .function)
    (hnames : ∀ z ∈ scope.names, z.2 = .local → scope.names.lookup z.1 = some .local) (hx : scope.names.lookup x = some .local)
    (hsrc : wpAny (model Mine.prog w) A (eval iter env) (fun xv s₁ => wpAny (model Mine.prog w) A (pyIter xv) (SrcOk w A n P s) E s₁) E s)
    (hq : QuietL w A env scope cl x ifs elt n P p F g env.locals m news)
    (done : ∀ D h' tk (ys vs : List Value) k, Fr g env.locals h' m → News g env.locals h' ((D, listOf ys.toArray k) :: news) → (∀ q ∈ news, @Ne Nat q.1 D) → vs.length = n → (∀ (j : Nat) v, vs[j]? = some v → P j v) → Paired F (vs.filter p) ys →
      Q (.ref D) { s with heap := h', toks := tk })
    (hs : ∀ x, foldedSetIterable iter env x = pure x := by intro _; rfl) :
    wpAny (model Mine.prog w) A (eval (.ListComp elt [⟨.Name x px, iter, ifs, 0⟩] scope pos) env) Q E s := by
  refine wpAny_ListComp_free p F hclos hcell hkind hnames hx (wpAny_mono hsrc (fun xv s₁ h₁ => wpAny_mono h₁ (fun it s₂ h₂ => ?_) fun _ _ e => e) fun _ _ e => e) hs
  refine ex6 h₂ ?_
  intro h₂ tk₂ I fp wr St hZ123z
  refine and8 hZ123z ?_
  intro hR124z hR125z W hsz hst hfp hwr k
  clear hZ123z
  subst hR124z
  subst hR125z
  refine ⟨I, fp, wr, n, P, St, rfl, W, hsz, hst, hfp, quiet_of Fr0 N0 k hwr hq, ?_⟩
  intro D h' tk ys vs hD hlD ⟨kk, hD'⟩ hlen hP hF hk
  have up : Kp s.heap h' := fun b o e => hk b o (fun hb => Nat.lt_irrefl _ (Nat.lt_of_lt_of_le (Heap.lt_size e) (hwr b hb))) (k b o e)
  have hDs : ∀ b o, s.heap.get? b = some o → b ≠ D := fun b o e hb => by rw [hb] at e; rw [k _ _ e] at hD; cases hD
  obtain ⟨oL, _, _, hoL, _⟩ := id Fr0.ns
  refine done D h' tk ys.toList vs kk (Fr0.keeps up) ?_ (fun q hq => hDs _ _ (N0 q hq).1) hlen hP hF
  intro q hq
  rcases List.mem_cons.mp hq with rfl | hq
  · refine ⟨by simpa using hD', Ne.symm (hDs _ _ hoL), ?_⟩
    cases e : g.get? D with
    | none => rfl
    | some o => exact absurd rfl (hDs _ _ (Fr0.keep _ _ e))
  · exact N0.grown up q hq
end
end
section
section
variable {α : Type} [BEq α] [LawfulBEq α]
/-- the list without the first c x of each x -/
noncomputable def leftF (c : α → Nat) : List α → List α
  | [] => []
  | x :: r => if c x = 0 then x :: leftF c r else leftF (fun y => if y == x then c x - 1 else c y) r
noncomputable def bump (c : α → Nat) (y : α) : α → Nat := fun z => if z == y then c y + 1 else c z
theorem leftF_bump : ∀ (l : List α) (c : α → Nat) (y : α), leftF (bump c y) l = (leftF c l).erase y
  | [], c, y => rfl
  | x :: r, c, y => by
    unfold leftF
    by_cases h0 : c x = 0
    · rw [if_pos h0]
      by_cases hxy : x = y
      · subst hxy
        rw [if_neg (by simp [bump]), List.erase_cons_head]
        congr 1
        funext z
        by_cases hz : z = x
        · subst hz; simp [bump, h0]
        · simp [bump, hz]
      · rw [if_pos (by simp [bump, hxy, h0]), List.erase_cons_tail (by simpa using hxy), leftF_bump r c y]
    · rw [if_neg h0, if_neg (by unfold bump; split <;> omega)]
      rw [← leftF_bump r _ y]
      congr 1
      funext z
      by_cases hz : z = x
      · subst hz
        by_cases hzy : z = y
        · subst hzy; simp [bump]; omega
        · simp [bump, hzy]
      · by_cases hzy : z = y
        · subst hzy
          have : ¬ x = z := fun e => hz e.symm
          simp [bump, hz]
        · simp [bump, hz, hzy]
theorem leftF_zero : ∀ (l : List α), leftF (fun _ => 0) l = l
  | [] => rfl
  | x :: r => by
    unfold leftF
    rw [if_pos rfl, leftF_zero r]
theorem leftF_snoc : ∀ (l : List α) (c : α → Nat) (x : α), leftF c (l ++ [x]) = leftF c l ++ (if c x ≤ l.count x then [x] else [])
  | [], c, x => by
    by_cases h : c x = 0 <;> simp [leftF, h]
  | z :: r, c, x => by
    rw [List.cons_append]
    unfold leftF
    by_cases h : c z = 0
    · rw [if_pos h, if_pos h, leftF_snoc r c x, List.cons_append]
      congr 3
      by_cases hz : z = x
      · subst hz; simp [h]
      · simp [List.count_cons, hz]
    · rw [if_neg h, if_neg h, leftF_snoc r _ x]
      congr 2
      by_cases hz : x = z
      · subst hz; simp <;> omega
      · have hz' : ¬ z = x := fun e => hz e.symm
        simp [List.count_cons, hz, hz']
theorem mem_leftF : ∀ (l : List α) (c : α → Nat) (y : α), y ∈ leftF c l ↔ c y < l.count y
  | [], c, y => by simp [leftF]
  | x :: r, c, y => by
    unfold leftF
    by_cases h : c x = 0
    · rw [if_pos h]
      by_cases hxy : y = x
      · subst hxy; simp [h]
      · have hyx : ¬ x = y := fun e => hxy e.symm
        simp [hxy, mem_leftF r c y, List.count_cons, hyx]
    · rw [if_neg h, mem_leftF r _ y]
      by_cases hxy : y = x
      · subst hxy; simp; omega
      · have hyx : ¬ x = y := fun e => hxy e.symm
        simp [hxy, List.count_cons, hyx]
theorem bump_count (l : List α) (x : α) : bump (fun y => l.count y) x = fun y => (l ++ [x]).count y := by
  funext z
  by_cases h : z = x
  · subst h; simp [bump]
  · have h' : ¬ x = z := fun e => h e.symm
    simp [bump, h, List.count_append, List.count_cons, h']
/-- one turn of unorderable_list_difference -/
theorem unord_hit {seen second : List α} {x : α} : (leftF (fun y => seen.count y) second).erase x = leftF (fun y => (seen ++ [x]).count y) second := by
  rw [← leftF_bump, bump_count]
theorem unord_miss {seen second : List α} {x : α} (h : x ∉ leftF (fun y => seen.count y) second) :
    leftF (fun y => seen.count y) second = leftF (fun y => (seen ++ [x]).count y) second ∧ leftF (fun y => second.count y) seen ++ [x] = leftF (fun y => second.count y) (seen ++ [x]) := by
  refine ⟨by rw [← unord_hit, List.erase_of_not_mem h], ?_⟩
  rw [leftF_snoc, if_pos]
  rw [mem_leftF] at h
  exact Nat.le_of_not_lt h
theorem unord_same {seen second : List α} {x : α} (h : x ∈ leftF (fun y => seen.count y) second) :
    leftF (fun y => second.count y) seen = leftF (fun y => second.count y) (seen ++ [x]) := by
  rw [leftF_snoc, if_neg, List.append_nil]
  rw [mem_leftF] at h
  omega
theorem leftF_length : ∀ (l : List α) (c : α → Nat), (leftF c l).length ≤ l.length
  | [], c => Nat.le_refl _
  | x :: r, c => by
    unfold leftF
    split
    · exact Nat.succ_le_succ (leftF_length r c)
    · exact Nat.le_succ_of_le (leftF_length r _)
end
end
section
section
variable {α : Type} [BEq α] [LawfulBEq α] {lt : α → α → Prop}
noncomputable def outF (E A : List α) : List α := E.filter fun x => !A.contains x
/-- the loop of sorted_list_difference between two turns -/
structure SInv (lt : α → α → Prop) (E A : List α) (i j : Nat) (mis unx : List α) : Prop where
  hi : i ≤ E.length
  hj : j ≤ A.length
  mis : mis = outF (E.take i) A
  unx : unx = outF (A.take j) E
  ea : ∀ x ∈ E.take i, ∀ y ∈ A.drop j, lt x y
  ae : ∀ y ∈ A.take j, ∀ x ∈ E.drop i, lt y x
theorem SInv.swap {E A : List α} {i j : Nat} {mis unx : List α} (h : SInv lt E A i j mis unx) : SInv lt A E j i unx mis := ⟨h.hj, h.hi, h.unx, h.mis, h.ae, h.ea⟩
theorem SInv.start (E A : List α) : SInv lt E A 0 0 [] [] := ⟨Nat.zero_le _, Nat.zero_le _, rfl, rfl, by simp, by simp⟩
variable (irr : ∀ x : α, ¬ lt x x) (tr : ∀ x y z : α, lt x y → lt y z → lt x z)
theorem drop_gt {A : List α} (hA : A.Pairwise lt) {j : Nat} {a : α} (ha : A[j]? = some a) : ∀ y ∈ A.drop j, y = a ∨ lt a y := by
  obtain ⟨hj, rfl⟩ := List.getElem?_eq_some_iff.mp ha
  rw [List.drop_eq_getElem_cons hj]
  intro y hy
  rcases List.mem_cons.mp hy with rfl | hy
  · exact .inl rfl
  · have := hA.sublist (List.drop_sublist j A)
    rw [List.drop_eq_getElem_cons hj] at this
    exact .inr ((List.pairwise_cons.mp this).1 y hy)
theorem drop_gt' {A : List α} (hA : A.Pairwise lt) {j : Nat} {a : α} (ha : A[j]? = some a) : ∀ y ∈ A.drop (j + 1), lt a y := by
  obtain ⟨hj, rfl⟩ := List.getElem?_eq_some_iff.mp ha
  intro y hy
  have := hA.sublist (List.drop_sublist j A)
  rw [List.drop_eq_getElem_cons hj] at this
  exact (List.pairwise_cons.mp this).1 y hy
theorem mem_take_drop {A : List α} (j : Nat) {x : α} : x ∈ A ↔ x ∈ A.take j ∨ x ∈ A.drop j := by
  conv => lhs; rw [← List.take_append_drop j A]
  exact List.mem_append
theorem mem_drop_of {E : List α} {i : Nat} {e : α} (he : E[i]? = some e) : e ∈ E.drop i := by
  obtain ⟨hi, rfl⟩ := List.getElem?_eq_some_iff.mp he
  rw [List.drop_eq_getElem_cons hi]
  exact .head _
theorem drop_succ_sub {E : List α} {i : Nat} {x : α} (h : x ∈ E.drop (i + 1)) : x ∈ E.drop i := by
  rw [← List.drop_drop] at h
  exact List.mem_of_mem_drop h
theorem outF_snoc {E A : List α} {i : Nat} {e : α} (he : E[i]? = some e) : outF (E.take (i + 1)) A = outF (E.take i) A ++ if A.contains e then [] else [e] := by
  unfold outF
  rw [List.take_add_one, he, List.filter_append]
  congr 1
  simp only [Option.toList, List.filter_cons, List.filter_nil]
  cases A.contains e <;> rfl
theorem SInv.less {E A : List α} (hE : E.Pairwise lt) (hA : A.Pairwise lt) {i j : Nat} {mis unx : List α} {e a : α} (h : SInv lt E A i j mis unx) (he : E[i]? = some e) (ha : A[j]? = some a) (hl : lt e a)
    (irr : ∀ x : α, ¬ lt x x) (tr : ∀ x y z : α, lt x y → lt y z → lt x z) : SInv lt E A (i + 1) j (mis ++ [e]) unx := by
  have hed := mem_drop_of he
  have hnot : A.contains e = false := by
    rw [List.contains_eq_mem]
    refine decide_eq_false fun hm => ?_
    rcases (mem_take_drop j).mp hm with hm | hm
    · exact irr _ (h.ae _ hm _ hed)
    · rcases drop_gt hA ha _ hm with rfl | hg
      · exact irr _ hl
      · exact irr _ (tr _ _ _ hl hg)
  refine ⟨(List.getElem?_eq_some_iff.mp he).1, h.hj, ?_, h.unx, ?_, fun y hy x hx => h.ae y hy x (drop_succ_sub hx)⟩
  · rw [outF_snoc he, hnot, h.mis]; rfl
  · intro x hx y hy
    rw [List.take_add_one, he] at hx
    rcases List.mem_append.mp hx with hx | hx
    · exact h.ea x hx y hy
    · simp at hx; subst hx
      rcases drop_gt hA ha _ hy with rfl | hg
      · exact hl
      · exact tr _ _ _ hl hg
theorem SInv.same {E A : List α} (hE : E.Pairwise lt) (hA : A.Pairwise lt) {i j : Nat} {mis unx : List α} {e : α} (h : SInv lt E A i j mis unx) (he : E[i]? = some e) (ha : A[j]? = some e) : SInv lt E A (i + 1) (j + 1) mis unx := by
  have h1 : A.contains e = true := by rw [List.contains_eq_mem]; exact decide_eq_true (List.mem_of_getElem? ha)
  have h2 : E.contains e = true := by rw [List.contains_eq_mem]; exact decide_eq_true (List.mem_of_getElem? he)
  refine ⟨(List.getElem?_eq_some_iff.mp he).1, (List.getElem?_eq_some_iff.mp ha).1, ?_, ?_, ?_, ?_⟩
  · rw [outF_snoc he, h1, h.mis]; simp
  · rw [outF_snoc ha, h2, h.unx]; simp
  · intro x hx y hy
    rw [List.take_add_one, he] at hx
    rcases List.mem_append.mp hx with hx | hx
    · exact h.ea x hx y (drop_succ_sub hy)
    · simp at hx; subst hx
      exact drop_gt' hA ha _ hy
  · intro x hx y hy
    rw [List.take_add_one, ha] at hx
    rcases List.mem_append.mp hx with hx | hx
    · exact h.ae x hx y (drop_succ_sub hy)
    · simp at hx; subst hx
      exact drop_gt' hE he _ hy
theorem outF_keep {E A : List α} (h : ∀ x ∈ E, x ∉ A) : outF E A = E := by
  unfold outF
  rw [List.filter_eq_self]
  intro x hx
  simpa using h x hx
theorem outF_split (E A : List α) (i : Nat) : outF E A = outF (E.take i) A ++ outF (E.drop i) A := by
  unfold outF
  rw [← List.filter_append, List.take_append_drop]
theorem SInv.stop {E A : List α} {i j : Nat} {mis unx : List α} (h : SInv lt E A i j mis unx) (he : E[i]? = none ∨ A[j]? = none) (irr : ∀ x : α, ¬ lt x x) : mis ++ E.drop i = outF E A := by
  rw [outF_split E A i, h.mis]
  congr 1
  rcases he with he | ha
  · rw [List.drop_eq_nil_of_le (List.getElem?_eq_none_iff.mp he)]; rfl
  · have hj := List.getElem?_eq_none_iff.mp ha
    refine (outF_keep fun x hx hm => ?_).symm
    refine irr x (h.ae x ?_ x hx)
    rwa [List.take_of_length_le hj]
theorem SInv.stop2 {E A : List α} {i j : Nat} {mis unx : List α} (h : SInv lt E A i j mis unx) (he : E[i]? = none ∨ A[j]? = none) (irr : ∀ x : α, ¬ lt x x) : unx ++ A.drop j = outF A E :=
  h.swap.stop he.symm irr
end
end
section
theorem sLast : ∀ {vs : List Value} {ns : List Str}, StrsAre vs ns → ns ≠ [] → ∃ y t, vs = vs.dropLast ++ [Value.str y t] ∧ ns = ns.dropLast ++ [y] ∧ StrsAre vs.dropLast ns.dropLast
  | _, _, .nil, h => absurd rfl h
  | _, _, .cons y t .nil, _ => ⟨y, t, rfl, rfl, .nil⟩
  | _, _, .cons y t (.cons y' t' r), _ => by
    obtain ⟨z, u, e1, e2, h3⟩ := sLast (.cons y' t' r) (by simp)
    exact ⟨z, u, congrArg (List.cons (Value.str y t)) e1, congrArg (List.cons y) e2, .cons y t h3⟩
theorem sErase (k : Str) : ∀ {vs : List Value} {ns : List Str}, StrsAre vs ns → StrsAre (vs.eraseIdx (ns.idxOf k)) (ns.erase k)
  | _, _, .nil => .nil
  | _, _, .cons (ys := r) y t h => by
    by_cases e : y = k
    · subst e
      rw [List.erase_cons_head, List.idxOf_cons_self]
      exact h
    · have e' : (y == k) = false := by simpa using e
      rw [List.erase_cons_tail (by simpa using e), List.idxOf_cons, e']
      exact .cons y t (sErase k h)
section
variable {prog : Program} {w : World} {A : Around} {E : Value → Shared → Prop} {s : Shared} {h₀ : Heap} {L D : Addr} {m : Str → Option Value} {news news' : List (Addr × Obj)} {n : Nat}
theorem pop_strs {vs : List Value} {ns : List Str} {Q : Value → Shared → Prop} (F : Fr h₀ L s.heap m) (N : News h₀ L s.heap news) (hi : StrsAre vs ns) (hne : ns ≠ []) (U : Upd D (listOf vs.toArray n) (listOf vs.dropLast.toArray (n + 1)) news news')
    (hz : vs.length ≤ sizeLine) (h : ∀ h' y t, Fr h₀ L h' m → News h₀ L h' news' → ns = ns.dropLast ++ [y] → StrsAre vs.dropLast ns.dropLast → Q (.str y t) { s with heap := h' }) :
    wpAny (model prog w) A (call (.builtin "list.pop") [.ref D]) Q E s := by
  obtain ⟨y, t, e1, e2, h3⟩ := sLast hi hne
  refine kl_pop F N (p := vs.dropLast) (y := .str y t) ?_ U (by simpa using hz) fun h' F' N' => h h' y t F' N' e2 h3
  have e := kpa_last (.str y t) vs.dropLast
  rw [← e1] at e
  simpa using e
theorem remove_strs {vs : List Value} {ns : List Str} {k : Str} {t : Tok} {Q : Value → Shared → Prop} (F : Fr h₀ L s.heap m) (N : News h₀ L s.heap news) (hi : StrsAre vs ns) (hk : k ∈ ns) (U : Upd D (listOf vs.toArray n) (listOf (vs.eraseIdx (ns.idxOf k)).toArray (n + 1)) news news')
    (hz : vs.length ≤ sizeLine) (h : ∀ h', Fr h₀ L h' m → News h₀ L h' news' → Q .none { s with heap := h' }) :
    wpAny (model prog w) A (call (.builtin "list.remove") [.ref D, .str k t]) Q E s := by
  obtain ⟨pre, post, rfl, rfl, a', b'⟩ := U.split
  have z := N (D, listOf vs.toArray n) (List.mem_append.mpr (.inr (.head _)))
  have hj : ns.idxOf k < ns.length := List.idxOf_lt_length_iff.mpr hk
  have hlen := hi.length
  refine call_meets PySem.F.slot_list_remove ⟨_, z.1, rfl⟩ PySem.F.entry_list_remove (PySem.F.args_list_remove_2 _ _)
    (MeetsSeq.list_remove D vs.toArray n (.str k t) (isStrOf k) (fun y hy => eq_isStrOf k t hi y (by simpa using hy)) (ns.idxOf k) (by simp; omega) ?_ ?_ (by simpa using hz))
    ⟨z.1, h _ (F.change (Heap.SameBut.update ..) z.2.1 z.2.2) (ki_turn _ N a' b' ?_ ?_)⟩
  · show isStrOf k vs[ns.idxOf k] = true
    rw [isStr_at k hi _ (by omega) hj]
    simpa using List.getElem_idxOf hj
  · intro j hjs hlt
    show isStrOf k vs[j] = false
    rw [isStr_at k hi j (by simpa using hjs) (by omega)]
    exact sne_of_lt_idxOf hlt _
  · apply Array.toList_inj.mp
    simp [Array.toList_eraseIdxIfInBounds]
  · rw [if_neg]
    simp only [List.size_toArray, List.length_eraseIdx]
    rw [if_pos (by omega)]
    simp; omega
theorem remove_none {vs : List Value} {ns : List Str} {k : Str} {t : Tok} {Q : Value → Shared → Prop} (N : News h₀ L s.heap news) (hm : (D, listOf vs.toArray n) ∈ news) (hh : A.handled = none) (hi : StrsAre vs ns) (hk : k ∉ ns)
    (hE : ∀ h' tk e, Heap.NewExc s.heap h' e "ValueError" → E (.ref e) { s with heap := h', toks := tk }) :
    wpAny (model prog w) A (call (.builtin "list.remove") [.ref D, .str k t]) Q E s := by
  have z := N _ hm
  refine call_meets PySem.F.slot_list_remove ⟨_, z.1, rfl⟩ PySem.F.entry_list_remove (PySem.F.args_list_remove_2 _ _)
    (MeetsSeq.list_remove_none D vs.toArray n (.str k t) (isStrOf k) (fun y hy => eq_isStrOf k t hi y (by simpa using hy)) ?_) ⟨z.1, hh, fun h' tk e hx => ?_⟩
  · intro j hjs
    show isStrOf k vs[j] = false
    have hjs' : j < vs.length := by simpa using hjs
    rw [isStr_at k hi j hjs' (by have := hi.length; omega)]
    have : ns[j]'(by have := hi.length; omega) ≠ k := fun e => hk (e ▸ List.getElem_mem _)
    simpa using this
  · exact hE h' tk e hx
end
end
section
section
variable {w : World} {A : Around} {s : Shared} {K : Frag} {L : Addr} {h₀ : Heap} {m mg mb : Str → Option Value} {news : List (Addr × Obj)} {p : Program} {loose : List Str} {mean : ExcName → Option Value}
theorem code_defT {env : Env} {R : Result → Shared → Prop} {name qual : Str} {params : Arguments} {body : List Stmt} {scope : Scope} {dV kV doc pm cdv ct oc : Value} {an od : Option Addr} {osl : Array (Option Value)} {f : Addr} {args : Args} {binds : List (Str × Value)}
    (F : Fr h₀ L s.heap m) (X₀ : K.In h₀) (N : News h₀ L s.heap news) (T : Top p loose mean mg mb h₀) (hA : A.frames = some [env]) (hf : env.frame = some L) (hke : env.scope.kind = .function)
    (ho : K.lookup f = some ⟨oc, od, .func (fnOf name qual params body scope dV kV doc pm an cdv ct), osl⟩) (hcd : codeIn K cdv qual = true) (hroom : A.depth < recursionLimit)
    (hbind : BindsTo s (fnOf name qual params body scope dV kV doc pm an cdv ct) args binds) (hloc : ∀ y ∈ binds, scope.names.lookup y.1 = some .local)
    (h : ∀ g L' oL h₁, GSub s.heap g (L :: news.map (·.1)) → TI.Caller h₀ L m oL → TI.Frs [env] [(L, oL)] → s.heap.get? L = some oL → (∀ p ∈ news, @LT.lt Nat _ p.1 L') → @LT.lt Nat _ L L' → (∀ p ∈ news, @Ne Nat p.1 L) → Kp h₀ g → K.In g → Top p loose mean mg mb g →
      Fr g L' h₁ (fun y => binds.reverse.lookup y) → News g L' h₁ (news ++ [(L, oL)]) →
      wpAny (model Mine.prog w) (A.deeper (envOf qual scope L' f cdv)) (execs body (envOf qual scope L' f cdv))
        (fun fl s' => R (.ok (.ret (match fl with | .ret v => v | _ => .none))) s')
        (fun e s' => wpAny (model Mine.prog w) (A.deeper (envOf qual scope L' f cdv)) (leaving (envOf qual scope L' f cdv) e) (fun _ s'' => R (.error e) s'') (fun e' s'' => R (.error e') s'') s')
        { s with heap := h₁, toks := s.toks + binds.length })
    (hco : scope.isCoroutine = false) (hgen : scope.isGenerator = false) (hk : scope.kind = .function)
    (hcell : ∀ x ∈ scope.names, x.2 ≠ .cell) : codeAny (model Mine.prog w) A (.call (.ref f) args) R s := by
  obtain ⟨oL, es, ep, hL, hLd, hLk, hLf⟩ := id F.ns
  have hLt := Heap.lt_size hL
  have hL0 : h₀.get? L = none := Heap.get?_none_of_le F.above
  have st : Kp h₀ (hideAll s.heap (L :: news.map (·.1))) := fun b o e => hideAll_get _ (F.keep b o e) fun hm => by
    rcases List.mem_cons.mp hm with rfl | hm
    · rw [hL0] at e; cases e
    · obtain ⟨q, hq, rfl⟩ := List.mem_map.mp hm
      rw [(N q hq).2.2] at e; cases e
  refine codeAny_call_def (fd := fnOf name qual params body scope dV kV doc pm an cdv ct) (body := body) (binds := binds) hroom ((X₀.keeps F.keep) _ _ ho) rfl (T.nolimit.keeps F.keep) (codeRec_of (X₀.keeps F.keep) hcd) rfl hbind hcell hloc (fun h₁ hns hk₁ => ?_) hco hgen hk
  refine h (hideAll s.heap (L :: news.map (·.1))) s.heap.objs.size oL h₁ (fun b o e n => hideAll_get _ e n) ⟨fun h' sl e => ⟨_, es, ep, e, hLd, hLk, hLf⟩, ⟨es, ep, hLd⟩, F.above⟩
    ⟨by rw [hke]; decide, hf, ⟨es, ep, hLd⟩, trivial⟩ hL (fun p hp => Heap.lt_size (N p hp).1) hLt (fun p hp => (N p hp).2.1) st (X₀.keeps fun b o e => st b o e) (T.keeps fun b o e => st b o e)
    ⟨hns, fun b o e => hk₁ b o (of_hideAll _ e), Nat.le_of_eq (hideAll_size _ _)⟩ fun p hp => ?_
  rcases List.mem_append.mp hp with hp | hp
  · exact ⟨hk₁ _ _ (N p hp).1, Nat.ne_of_lt (Heap.lt_size (N p hp).1), hideAll_none _ (List.mem_cons_of_mem _ (List.mem_map_of_mem hp))⟩
  · rw [List.mem_singleton.mp hp]
    exact ⟨hk₁ _ _ hL, Nat.ne_of_lt hLt, hideAll_none _ (List.mem_cons_self)⟩
variable {g h' : Heap} {L' : Addr} {m' : Str → Option Value} {oL : Obj} {adr : List Addr} {news' : List (Addr × Obj)}
theorem fr_back {sl : Array (Option Value)} (C : TI.Caller h₀ L m oL) (kp : Kp h₀ g) (F' : Fr g L' h' m') (N' : News g L' h' news') (hL : (L, ({ oL with slots := sl } : Obj)) ∈ news') : Fr h₀ L h' m :=
  ⟨C.ns _ sl (N' _ hL).1, fun b o e => F'.keep b o (kp b o e), C.above⟩
theorem kx_back {h : Heap} (G : GSub h g adr) (F' : Fr g L' h' m') : Kx adr h h' := fun b o hb e => F'.keep b o (G b o e hb)
theorem fresh_back {h : Heap} {D : Addr} {o : Obj} (G : GSub h g adr) (N' : News g L' h' news') (hD : (D, o) ∈ news') (hn : D ∉ adr) : h.get? D = none := by
  cases q : h.get? D with
  | none => rfl
  | some o' => have := G _ _ q hn; rw [(N' _ hD).2.2] at this; cases this
end
end
section
theorem sDrop : ∀ {vs : List Value} {ns : List Str}, StrsAre vs ns → ∀ k : Nat, StrsAre (vs.drop k) (ns.drop k)
  | _, _, h, 0 => h
  | _, _, .nil, _ + 1 => .nil
  | _, _, .cons _ _ h, k + 1 => sDrop h k
section
variable {w : World} {A : Around} {E : Value → Shared → Prop} {s : Shared} {h₀ : Heap} {L D b : Addr} {m : Str → Option Value} {news : List (Addr × Obj)} {g : Obj → List (Addr × Obj)} {n n2 : Nat}
theorem sub_hit {value slice : PySem.Expr} {l : Addr} {vs : List Value} {ns : List Str} {i : Nat} {k : Int} {x : Str} {u : Tok} {Q : Value → Shared → Prop} (hl : s.heap.IsList l vs.toArray) (hi : StrsAre vs ns) (hk : k = (i : Nat)) (hx : ns[i]? = some x) (hz : ns.length ≤ 1000)
    (h : ∀ t, Q (.str x t) s)
    (hs : subscripted slice false (.ref l) (.int k u) = operate [.ref l, .int k u] (getItem (.ref l) (.int k u)) := by with_unfolding_all rfl) :
    wpAny (model Mine.prog w) A (subscriptTail value slice (.ref l) (.int k u)) Q E s := by
  subst hk
  obtain ⟨t, ht⟩ := hi.at hx
  have hlt := (List.getElem?_eq_some_iff.mp hx).1
  exact tail_any hl.typeIs slot_list_getitem.lookup (wpAny_getItem_list hl (by omega) (by omega) (by simpa using ht) (h t)) hs
theorem sub_out {value slice : PySem.Expr} {l : Addr} {vs : List Value} {ns : List Str} {i : Nat} {k : Int} {u : Tok} {Q : Value → Shared → Prop} (hA : A.handled = none) (hl : s.heap.IsList l vs.toArray) (hi : StrsAre vs ns) (hk : k = (i : Nat)) (hx : ns[i]? = none) (hz : i ≤ 100000)
    (hE : ∀ h' tk e, Heap.NewExc s.heap h' e "IndexError" → E (.ref e) { s with heap := h', toks := tk })
    (hs : subscripted slice false (.ref l) (.int k u) = operate [.ref l, .int k u] (getItem (.ref l) (.int k u)) := by with_unfolding_all rfl) :
    wpAny (model Mine.prog w) A (subscriptTail value slice (.ref l) (.int k u)) Q E s := by
  subst hk
  have hn := List.getElem?_eq_none_iff.mp hx
  have hlen := hi.length
  exact item_outK hA hl (.inr (by simp; omega)) (by omega) (by omega) hE hs
theorem extend_any {its its2 : Array Value} {Q : Value → Shared → Prop} (F : Fr h₀ L s.heap m) (N : News h₀ L s.heap news) (hb : (b, listOf its2 n2) ∈ news) (U : UpdF D (listOf its n) news g)
    (hz : its.size ≤ 10000) (hz2 : its2.size ≤ 10000) (h : ∀ h' n', Fr h₀ L h' m → News h₀ L h' (g (listOf (its ++ its2) n')) → Q .none { s with heap := h' }) :
    wpAny (model Mine.prog w) A (call (.builtin "list.extend") [.ref D, .ref b]) Q E s := by
  obtain ⟨pre, post, rfl, hg, a, c⟩ := U.split
  have z := N (D, listOf its n) (List.mem_append.mpr (.inr (.head _)))
  have hd : ¬(!its.isEmpty && Builtin.List.listTooLong (its.size + its2.size)) = true := by
    have : Builtin.List.listTooLong (its.size + its2.size) = false := by
      unfold Builtin.List.listTooLong
      simp only [decide_eq_false_iff_not, sizeLine_eq]
      omega
    rw [this, Bool.and_false]; exact Bool.false_ne_true
  refine call_meets PySem.F.slot_list_extend ⟨_, z.1, rfl⟩ PySem.F.entry_list_extend (PySem.F.args_list_extend_2 _ _) (PySem.AutoSeq1.list_extend_list_list_0 D its n b its2 n2 hd (by rw [sizeLine_eq]; omega) (by rw [sizeLine_eq]; omega))
    ⟨z.1, (N _ hb).1, h _ (if ((its ++ its2).size == its.size) then n else n + 1) (F.change (Heap.SameBut.update ..) z.2.1 z.2.2) ?_⟩
  rw [hg]
  exact ki_turn (fun x => x ++ its2) N a c rfl rfl
theorem slice_from {value slice : PySem.Expr} {l : Addr} {vs : List Value} {i : Nat} {k : Int} {t : Tok} {Q : Value → Shared → Prop} (F : Fr h₀ L s.heap m) (N : News h₀ L s.heap news) (hl : s.heap.IsList l vs.toArray) (hk : k = (i : Nat)) (hz : vs.length ≤ 10000)
    (h : ∀ D h', Fr h₀ L h' m → News h₀ L h' ((D, listOf (vs.drop i).toArray 0) :: news) → (∀ p ∈ news, @LT.lt Nat _ p.1 D) → Q (.ref D) { s with heap := h' })
    (hs : subscripted slice false (.ref l) (.ref s.heap.objs.size) = operate [.ref s.heap.objs.size, .ref l] (getItem (.ref l) (.ref s.heap.objs.size))) (ht : ∀ r, letTemporaryGo value (.ref l) r = pure ()) :
    wpAny (model Mine.prog w) A (subscriptTail value slice (.ref l) (.ref s.heap.objs.size)) Q E { s with heap := s.heap.push { cls := .type "slice", data := .fields #[.int k t, .none, .none] } } := by
  subst hk
  refine kmk_slice (lo := some (i : Int)) (hi := none) F N hl (.int _ _) .none ?_ hs ht (by rw [sizeLine_eq]; simp; omega)
  intro D h' F' N' l1
  rw [slicePick_from'] at N'
  exact h D h' F' N' l1
theorem while_zero {env : Env} {test : PySem.Expr} {body : List Stmt} {pos : Pos} {Q : Flow → Shared → Prop} (h : wpAny (model Mine.prog w) A (isTrue test env (eval test env)) (fun b s₂ => b = false ∧ Q .next s₂) E s)
    (hE : PassesOwn (model Mine.prog w) A env E := by passes_own) : wpAny (model Mine.prog w) A (exec (.While test body [] pos) env) Q E s := by
  refine wpAny_While (codeAny_whileLoop (fun _ s' => s' = s) ?_ 0 rfl)
  rintro n s' rfl
  refine wpAny_mono h (fun b s₂ h₂ => ?_) hE
  obtain ⟨rfl, hq⟩ := h₂
  exact wpAny_execs_nil hq
end
end
section
section
variable {w : World} {A : Around} {E : Value → Shared → Prop} {s : Shared} {env : Env} {g : Heap} {x : Str} {px : Pos} {body : List Stmt} {Q : Flow → Shared → Prop} {m₀ : Str → Option Value} {news₀ : List (Addr × Obj)}
/-- for x in range(..) -/
theorem loopR {r : Addr} {a b c : Int} {t u v : Tok} {n : Nat} (J : Nat → (Str → Option Value) → List (Addr × Obj) → Prop)
    (hh : A.handled = none) (F : Fr g env.locals s.heap m₀) (N : News g env.locals s.heap news₀) (hj : J 0 m₀ news₀)
    (hr : IsRange s.heap r a b c t u v) (hsmall : Builtin.Range.small a b c = true) (hn : Builtin.Range.rangeSize a b c = (n : Int))
    (turn : ∀ i z tz m news h tk I oI, (∀ p ∈ news₀, @LT.lt Nat _ p.1 I) → i < n → z = a + (i : Nat) * c → J i m news → (∀ p ∈ news, p.1 ≠ I) → Fr g env.locals h m → News g env.locals h ((I, oI) :: news) →
      wpAny (model Mine.prog w) A (assign (.Name x px) env (.int z tz)) (fun _ s₂ => wpAny (model Mine.prog w) A (execs body env) (TurnEnd g env.locals I oI (J (i + 1)) s Q) E s₂) E { s with heap := h, toks := tk })
    (done : ∀ m news h tk, J n m news → Fr g env.locals h m → News g env.locals h news → Q .next { s with heap := h, toks := tk })
    (hE : PassesOwn (model Mine.prog w) A env E := by passes_own) :
    wpAny (model Mine.prog w) A (pyIter (.ref r)) (fun it s₂ => codeAny (model Mine.prog w) A (.forLoop (.Name x px) it body [] env)
      (fun r s' => match r with | .ok f => Q f s' | .error e => cameBackBy (model Mine.prog w) A env E e s') s₂) E s := by
  refine wpAny_pyIter_range hr hsmall ?_
  have hIg : g.get? s.heap.objs.size = none := next_is_new F
  have hIL : s.heap.objs.size ≠ env.locals := fun e => absurd F.ns.lt (e ▸ Nat.lt_irrefl _)
  have W := (Walks.range (prog := Mine.prog) (w := w) hh s.heap.objs.size a c n)
  have hI0 : (s.heap.push { cls := .type "range_iterator", data := .fields #[rawInt a, rawInt (Builtin.Range.rangeSize a b c), rawInt c] }).get? s.heap.objs.size = some { cls := .type "range_iterator", data := .fields #[rawInt a, rawInt (Builtin.Range.rangeSize a b c), rawInt c] } := Heap.get?_push_size _ rfl
  have F0 : Fr g env.locals (s.heap.push { cls := .type "range_iterator", data := .fields #[rawInt a, rawInt (Builtin.Range.rangeSize a b c), rawInt c] }) m₀ := F.push _
  have N0 : News g env.locals (s.heap.push { cls := .type "range_iterator", data := .fields #[rawInt a, rawInt (Builtin.Range.rangeSize a b c), rawInt c] }) news₀ := fun p hp => ⟨Heap.get?_push_of_some _ (N p hp).1, (N p hp).2⟩
  have ltI : ∀ p ∈ news₀, @LT.lt Nat _ p.1 s.heap.objs.size := fun p hp => Heap.lt_size (N p hp).1
  generalize s.heap.push { cls := .type "range_iterator", data := .fields #[rawInt a, rawInt (Builtin.Range.rangeSize a b c), rawInt c] } = h0 at hI0 F0 N0 ⊢
  generalize s.heap.objs.size = I at hIg hIL W hI0 ltI ⊢
  have same : ∀ {h h₁ : Heap} {m : Str → Option Value} {news : List (Addr × Obj)}, (∀ b o, b ∉ [I] → h.get? b = some o → h₁.get? b = some o) → Fr g env.locals h m → News g env.locals h news → (∀ p ∈ news, p.1 ≠ I) → Fr g env.locals h₁ m ∧ News g env.locals h₁ news :=
    fun k F N hn => ⟨⟨F.ns.at' fun o e => k _ o (by simpa using Ne.symm hIL) e, fun b o e => k b o (fun hb => by rw [List.mem_singleton.mp hb, hIg] at e; cases e) (F.keep b o e), F.above⟩, fun p hp => ⟨k _ _ (by simpa using hn p hp) (N p hp).1, (N p hp).2⟩⟩
  have st0 : IsRangeIter h0 I (a + (0 : Nat) * c) ((n : Int) - (0 : Nat)) c := by
    show h0.get? I = _
    rw [hI0, hn]
    simp
  refine codeAny_forLoop
    (fun k s' => ∃ h' tk m' news' i, s' = { s with heap := h', toks := tk } ∧ IsRangeIter h' I (a + (i : Nat) * c) ((n : Int) - (i : Nat)) c ∧ Fr g env.locals h' m' ∧ News g env.locals h' news' ∧ (∀ p ∈ news', p.1 ≠ I) ∧ J i m' news' ∧ i ≤ n ∧ k = n + 1 - i) ?_ (n + 1)
    ⟨_, s.toks, m₀, news₀, 0, rfl, st0, F0, N0, fun p hp => Nat.ne_of_lt (ltI p hp), hj, Nat.zero_le _, rfl⟩
  rintro k s' hY93z
  refine ex5 hY93z ?_
  intro h' tk m' news' i hZ94z
  clear hY93z
  refine and8 hZ94z ?_
  intro hR95z hit F' N' hn' hJ hi hR96z
  clear hZ94z
  subst hR95z
  subst hR96z
  by_cases hlt : i < n
  · refine W.item i _ _ _ hlt hit fun y h₁ tk₁ hP hit₁ hk₁ => ?_
    obtain ⟨tz, rfl⟩ := hP
    obtain ⟨F₁, N₁⟩ := same hk₁ F' N' hn'
    obtain ⟨oI, hoI, up⟩ : ∃ oI, h₁.get? I = some oI ∧ ∀ h₂ : Heap, h₂.get? I = some oI → IsRangeIter h₂ I (a + ((i + 1 : Nat) : Int) * c) ((n : Int) - ((i + 1 : Nat) : Int)) c := ⟨_, hit₁, fun h₂ e => e⟩
    refine wpAny_passesOwn hE (wpAny_mono (turn i _ tz m' news' h₁ tk₁ I oI ltI hlt rfl hJ hn' F₁ fun p hp => ?_) (fun _ s₂ h₂ => wpAny_passesOwn hE (wpAny_mono h₂ (fun f s₃ h₃ => ?_) fun _ _ e => e)) fun _ _ e => e)
    · rcases List.mem_cons.mp hp with rfl | hp
      · exact ⟨hoI, hIL, hIg⟩
      · exact N₁ p hp
    · have fin : (∃ h' tk' m' news', s₃ = { s with heap := h', toks := tk' } ∧ Fr g env.locals h' m' ∧ News g env.locals h' ((I, oI) :: news') ∧ (∀ p ∈ news', p.1 ≠ I) ∧ J (i + 1) m' news') →
          ∃ m, m < n + 1 - i ∧ ∃ h' tk m' news' i, s₃ = { s with heap := h', toks := tk } ∧ IsRangeIter h' I (a + (i : Nat) * c) ((n : Int) - (i : Nat)) c ∧ Fr g env.locals h' m' ∧ News g env.locals h' news' ∧ (∀ p ∈ news', p.1 ≠ I) ∧ J i m' news' ∧ i ≤ n ∧ m = n + 1 - i := by
        rintro hY97z
        refine ex4 hY97z ?_
        intro h₂ tk₂ m₂ news₂ hZ98z
        clear hY97z
        refine and5 hZ98z ?_
        intro hR99z F₂ N₂ hn₂ hJ₂
        clear hZ98z
        subst hR99z
        exact ⟨n + 1 - (i + 1), by omega, h₂, tk₂, m₂, news₂, i + 1, rfl, up _ (N₂ _ (.head _)).1, F₂, fun p hp => N₂ p (.tail _ hp), hn₂, hJ₂, hlt, rfl⟩
      cases f with
      | ret v => exact h₃
      | brk => exact h₃
      | next => exact fin h₃
      | cont => exact fin h₃
  · have hin : i = n := Nat.le_antisymm hi (Nat.le_of_not_lt hlt)
    subst hin
    refine W.done _ _ _ hit fun h₁ tk₁ hk₁ => ?_
    obtain ⟨F₁, N₁⟩ := same hk₁ F' N' hn'
    exact wpAny_execs_nil (done m' news' h₁ tk₁ hJ F₁ N₁)
theorem loopSR {σ : Type} {r : Addr} {a b c : Int} {t u v : Tok} {n : Nat} (Led : σ → List (Addr × Obj)) (cst : List (Addr × Obj)) (stored : List Str) (adr : List Addr) (Inv : Nat → σ → Prop) (c₀ : σ)
    (hh : A.handled = none) (hr : IsRange s.heap r a b c t u v) (hsmall : Builtin.Range.small a b c = true) (hn : Builtin.Range.rangeSize a b c = (n : Int)) (F : Fr g env.locals s.heap m₀) (N : News g env.locals s.heap (Led c₀ ++ cst)) (hadr : ∀ c, (Led c).map (·.1) = adr) (h0 : Inv 0 c₀)
    (turn : ∀ i z tz c₁ (u : Str → Option Value) h tk I oI, i < n → z = a + (i : Nat) * c → Inv i c₁ → (∀ b ∈ adr, @LT.lt Nat _ b I) → (∀ p ∈ cst, @LT.lt Nat _ p.1 I) → Fr g env.locals h (fun y => if stored.contains y = true then u y else m₀ y) → News g env.locals h ((I, oI) :: (Led c₁ ++ cst)) →
      wpAny (model Mine.prog w) A (assign (.Name x px) env (.int z tz)) (fun _ s₂ => wpAny (model Mine.prog w) A (execs body env) (EndS g env.locals I oI Led cst stored m₀ (Inv (i + 1)) s Q) E s₂) E { s with heap := h, toks := tk })
    (done : ∀ c₁ (u : Str → Option Value) h tk, Inv n c₁ → Fr g env.locals h (fun y => if stored.contains y = true then u y else m₀ y) → News g env.locals h (Led c₁ ++ cst) → Q .next { s with heap := h, toks := tk })
    (hE : PassesOwn (model Mine.prog w) A env E := by passes_own) :
    wpAny (model Mine.prog w) A (pyIter (.ref r)) (fun it s₂ => codeAny (model Mine.prog w) A (.forLoop (.Name x px) it body [] env)
      (fun r s' => match r with | .ok f => Q f s' | .error e => cameBackBy (model Mine.prog w) A env E e s') s₂) E s := by
  refine loopR (n := n) (fun i m news => (∀ y, stored.contains y = false → m y = m₀ y) ∧ ∃ c₁, news = Led c₁ ++ cst ∧ Inv i c₁) hh F N ⟨st_self, c₀, rfl, h0⟩ hr hsmall hn ?_ ?_ hE
  · rintro i z tz m news h tk I oI hI hlt hz hY100z hn F' N'
    refine and2 hY100z ?_
    intro hm hZ101z
    clear hY100z
    refine ex1 hZ101z ?_
    intro c₁ hZ102z
    clear hZ101z
    refine and2 hZ102z ?_
    intro hR103z hinv
    clear hZ102z
    subst hR103z
    have hI1 : ∀ b ∈ adr, @LT.lt Nat _ b I := fun b hb => by
      rw [← hadr c₀] at hb
      obtain ⟨q, hq, rfl⟩ := List.mem_map.mp hb
      exact hI q (List.mem_append_left _ hq)
    have hI2 : ∀ p ∈ cst, @LT.lt Nat _ p.1 I := fun p hp => hI p (List.mem_append_right _ hp)
    refine wpAny_mono (turn i z tz c₁ m h tk I oI hlt hz hinv hI1 hI2 (st_fun hm ▸ F') N') (fun _ s₂ h₂ => wpAny_mono h₂ (fun f s₃ h₃ => ?_) fun _ _ e => e) fun _ _ e => e
    have fin : (∃ c' h' tk' m', s₃ = { s with heap := h', toks := tk' } ∧ (∀ y, stored.contains y = false → m' y = m₀ y) ∧ Fr g env.locals h' m' ∧ News g env.locals h' ((I, oI) :: (Led c' ++ cst)) ∧ Inv (i + 1) c') →
        ∃ h' tk' m' news', s₃ = { s with heap := h', toks := tk' } ∧ Fr g env.locals h' m' ∧ News g env.locals h' ((I, oI) :: news') ∧ (∀ p ∈ news', p.1 ≠ I) ∧ (∀ y, stored.contains y = false → m' y = m₀ y) ∧ ∃ c₁, news' = Led c₁ ++ cst ∧ Inv (i + 1) c₁ := by
      rintro hY104z
      refine ex4 hY104z ?_
      intro c' h' tk' m' hZ105z
      clear hY104z
      refine and5 hZ105z ?_
      intro hR106z hm' F'' N'' hi
      clear hZ105z
      subst hR106z
      refine ⟨h', tk', m', Led c' ++ cst, rfl, F'', N'', fun p hp => ?_, hm', c', rfl, hi⟩
      rcases List.mem_append.mp hp with hp | hp
      · exact Nat.ne_of_lt (hI1 _ (hadr c' ▸ List.mem_map_of_mem hp))
      · exact Nat.ne_of_lt (hI2 p hp)
    cases f with
    | ret v => exact h₃
    | brk => exact h₃
    | next => exact fin h₃
    | cont => exact fin h₃
  · rintro m news h tk hY107z F' N'
    refine and2 hY107z ?_
    intro hm hZ108z
    clear hY107z
    refine ex1 hZ108z ?_
    intro c₁ hZ109z
    clear hZ108z
    refine and2 hZ109z ?_
    intro hR110z hi
    clear hZ109z
    subst hR110z
    exact done c₁ m h tk hi (st_fun hm ▸ F') N'
end
section
variable {w : World} {A : Around} {E : Value → Shared → Prop} {s : Shared} {h₀ : Heap} {L : Addr} {m : Str → Option Value} {news : List (Addr × Obj)}
theorem slice_upto {value slice : PySem.Expr} {l : Addr} {vs : List Value} {i : Nat} {k : Int} {t : Tok} {Q : Value → Shared → Prop} (F : Fr h₀ L s.heap m) (N : News h₀ L s.heap news) (hl : s.heap.IsList l vs.toArray) (hk : k = (i : Nat)) (hz : vs.length ≤ 10000)
    (h : ∀ D h', Fr h₀ L h' m → News h₀ L h' ((D, listOf (vs.take i).toArray 0) :: news) → (∀ p ∈ news, @LT.lt Nat _ p.1 D) → Q (.ref D) { s with heap := h' })
    (hs : subscripted slice false (.ref l) (.ref s.heap.objs.size) = operate [.ref s.heap.objs.size, .ref l] (getItem (.ref l) (.ref s.heap.objs.size))) (ht : ∀ r, letTemporaryGo value (.ref l) r = pure ()) :
    wpAny (model Mine.prog w) A (subscriptTail value slice (.ref l) (.ref s.heap.objs.size)) Q E { s with heap := s.heap.push { cls := .type "slice", data := .fields #[.none, .int k t, .none] } } := by
  subst hk
  refine kmk_slice (lo := none) (hi := some (i : Int)) F N hl .none (.int _ _) ?_ hs ht (by rw [sizeLine_eq]; simp; omega)
  intro D h' F' N' l1
  rw [slicePick_upto'] at N'
  exact h D h' F' N' l1
theorem strs_take {vs : List Value} {ns : List Str} : ∀ (i : Nat), StrsAre vs ns → StrsAre (vs.take i) (ns.take i) := by
  intro i h
  induction h generalizing i with
  | nil => simp; exact .nil
  | cons y t _ ih =>
    cases i with
    | zero => exact .nil
    | succ i => exact .cons y t (ih i)
end
end
section
open PyProof.Rows.LCg
section
variable {w : World} {A : Around} {E : Value → Shared → Prop} {env : Env}
/-- [elt for x in l], whatever an element does, by an invariant on the whole state that stands changes at `bad` (the iterator, the block's names, the list made) -/
theorem compS {s : Shared} {elt iter : PySem.Expr} {x : Str} {px : Pos} {scope : Scope} {cl : List (Str × Addr)} {pos : Pos} {Q : Value → Shared → Prop} {l : Addr} {vs : List Value} (J : List Addr → Nat → List Value → Shared → Prop)
    (hh : A.handled = none) (hclos : closureFor scope env = pure cl) (hcell : ∀ z ∈ scope.names, z.2 ≠ .cell) (hkind : scope.kind = .function)
    (hnames : ∀ z ∈ scope.names, z.2 = .local → scope.names.lookup z.1 = some .local) (hx : scope.names.lookup x = some .local)
    (hiter : wpAny (model Mine.prog w) A (eval iter env) (fun xv s₁ => xv = .ref l ∧ s₁ = s) E s) (hsz : vs.length ≤ sizeLine)
    (hl : ∀ bad i ys s₁, J bad i ys s₁ → s₁.heap.IsList l vs.toArray)
    (J0 : ∀ bad, (∀ b ∈ bad, s.heap.get? b = none) → J bad 0 [] s)
    (stab : ∀ bad i ys (s₁ : Shared) h' tk, J bad i ys s₁ → (∀ b o, b ∉ bad → s₁.heap.get? b = some o → h'.get? b = some o) → J bad i ys { s₁ with heap := h', toks := tk })
    (elem : ∀ bad C i v ys (s₁ : Shared) m₁ E', J bad i ys s₁ → vs[i]? = some v → s₁.heap.Ns C m₁ → m₁ x = some v → C ∈ bad → (∀ b ∈ bad, ∃ o, s₁.heap.get? b = some o) →
      wpAny (model Mine.prog w) A (eval elt (compEnvC scope cl C env)) (fun y s₂ => J bad (i + 1) (ys ++ [y]) s₂ ∧ ∀ b ∈ bad, s₂.heap.get? b = s₁.heap.get? b) E' s₁)
    (done : ∀ bad D ys (s₁ : Shared), J bad vs.length ys s₁ → D ∈ bad → s₁.heap.get? D = some (lst ys) → ys.length = vs.length → Q (.ref D) s₁)
    (hs : ∀ x, foldedSetIterable iter env x = pure x := by intro _; rfl) :
    wpAny (model Mine.prog w) A (eval (.ListComp elt [⟨.Name x px, iter, [], 0⟩] scope pos) env) Q E s := by
  rw [eval_ListComp]
  refine wpAny_comprehension_free (use := none) rfl hs hclos hkind hnames (wpAny_mono hiter (fun xv s₁ h₁ => ?_) fun _ _ e => e)
  obtain ⟨rfl, rfl⟩ := h₁
  have hI0 : s₁.heap.IsList l vs.toArray := hl [] 0 [] s₁ (J0 [] (fun b hb => nomatch hb))
  refine wpAny_pyIter_list hI0 ?_
  refine wpAny_newObj_type (wpAny_newFunctionEnv hcell (by intro y hy; simp at hy) (fun h₁ hns₁ hsb₁ => ?_) hkind)
  dsimp only at hns₁ hsb₁ ⊢
  have hI1 : (s₁.heap.push { cls := .type "list_iterator", data := .fields #[.ref l, .int 0 0] }).get? s₁.heap.objs.size = some { cls := .type "list_iterator", data := .fields #[.ref l, .int 0 0] } := Heap.get?_push_size _ rfl
  have old1 : ∀ b o, s₁.heap.get? b = some o → (s₁.heap.push { cls := .type "list_iterator", data := .fields #[.ref l, .int 0 0] }).get? b = some o := fun _ _ e => Heap.get?_push_of_some _ e
  have sz1 : (s₁.heap.push { cls := .type "list_iterator", data := .fields #[.ref l, .int 0 0] }).objs.size = s₁.heap.objs.size + 1 := Heap.size_push _ _
  generalize s₁.heap.push { cls := .type "list_iterator", data := .fields #[.ref l, .int 0 0] } = H1 at hns₁ hsb₁ hI1 old1 sz1 ⊢
  have hD2 : (H1.push { cls := .type "list", dict := none, data := .seq ([] : List Value).toArray }).get? H1.objs.size = some (lst []) := Heap.get?_push_size _ rfl
  have old2 : ∀ b o, H1.get? b = some o → (H1.push { cls := .type "list", dict := none, data := .seq ([] : List Value).toArray }).get? b = some o := fun _ _ e => Heap.get?_push_of_some _ e
  have sz2 : (H1.push { cls := .type "list", dict := none, data := .seq ([] : List Value).toArray }).objs.size = H1.objs.size + 1 := Heap.size_push _ _
  generalize H1.push { cls := .type "list", dict := none, data := .seq ([] : List Value).toArray } = H2 at hns₁ hsb₁ hD2 old2 sz2 ⊢
  have fresh : ∀ a, s₁.heap.objs.size ≤ a → s₁.heap.get? a = none := fun a ha => Heap.get?_none_of_le ha
  have nCI : H2.objs.size ≠ s₁.heap.objs.size := by rw [sz2, sz1]; omega
  have nCD : H2.objs.size ≠ H1.objs.size := by rw [sz2]; omega
  have nDI : H1.objs.size ≠ s₁.heap.objs.size := by rw [sz1]; omega
  have up : ∀ b o, b ≠ H2.objs.size → H2.get? b = some o → h₁.get? b = some o := fun b o hb e => hsb₁.extBut b o hb (Heap.get?_push_of_some _ e)
  have old : ∀ b o, s₁.heap.get? b = some o → h₁.get? b = some o := fun b o e => up b o (Nat.ne_of_lt (Nat.lt_of_lt_of_le (Heap.lt_size e) (by rw [sz2, sz1]; exact Nat.le_succ_of_le (Nat.le_succ _)))) (old2 _ _ (old1 _ _ e))
  have hI3 : h₁.get? s₁.heap.objs.size = some { cls := .type "list_iterator", data := .fields #[.ref l, .int 0 0] } := up _ _ (Ne.symm nCI) (old2 _ _ hI1)
  have hD3 : h₁.get? H1.objs.size = some (lst []) := up _ _ (Ne.symm nCD) hD2
  have fI : s₁.heap.get? s₁.heap.objs.size = none := fresh _ (Nat.le_refl _)
  have fD : s₁.heap.get? H1.objs.size = none := fresh _ (by rw [sz1]; omega)
  have fC : s₁.heap.get? H2.objs.size = none := fresh _ (by rw [sz2, sz1]; omega)
  clear hsb₁ up hI1 hD2 old1 old2 sz1 sz2 fresh
  generalize H2.objs.size = C at *
  generalize H1.objs.size = D at *
  generalize s₁.heap.objs.size = I at *
  have loop : ∀ s₃ : Shared, s₃ = { s₁ with heap := h₁, toks := s₁.toks + ([] : List (Str × Value)).length } →
      codeAny (model Mine.prog w) A (.compLoop (.ListComp elt [⟨.Name x px, iter, [], 0⟩] scope pos) 0 (.ref I) (.ref D) (compEnvC scope cl C env)) (compPost (model Mine.prog w) A E none Q (.ref D) C) s₃ := by
    rintro s₃ rfl
    refine codeAny_compLoop_tests
      (fun k s' => ∃ i ys m', i ≤ vs.length ∧ k = vs.length + 1 - i ∧ ys.length = i ∧ J [I, C, D] i ys s' ∧ s'.heap.IsListIter I l i ∧ s'.heap.Ns C m' ∧ s'.heap.get? D = some (lst ys)) ?_ (vs.length + 1)
      ⟨0, [], _, Nat.zero_le _, rfl, rfl, stab [I, C, D] 0 [] s₁ h₁ _ (J0 _ (fun b hb => by
        simp only [List.mem_cons, List.not_mem_nil, or_false] at hb
        rcases hb with rfl | rfl | rfl
        · exact fI
        · exact fC
        · exact fD)) (fun b o _ e => old b o e), ⟨_, hI3, rfl, rfl⟩, hns₁, hD3⟩
    rintro k s' hY120z
    refine ex3 hY120z ?_
    intro i ys m' hZ121z
    clear hY120z
    refine and7 hZ121z ?_
    intro hi hR122z hyl hJ hit hn hD
    clear hZ121z
    subst hR122z
    have hl' := hl _ _ _ _ hJ
    cases hv : vs[i]? with
    | none =>
      have hin : i = vs.length := Nat.le_antisymm hi (List.getElem?_eq_none_iff.mp hv)
      refine wpAny_pyNext_list_end hh hit hl' (by simpa using hv) fun h₂ hs₂ => ?_
      refine ⟨m', hn.at' fun o e => hs₂ _ o nCI e, fun h' hs' => ?_⟩
      refine done [I, C, D] D ys _ (hin ▸ stab _ _ _ s' h' s'.toks hJ fun b o hb e => ?_) (by simp) (hs'.extBut _ _ (Ne.symm nCD) (hs₂ _ _ nDI hD)) (hyl.trans hin)
      simp only [List.mem_cons, List.not_mem_nil, or_false, not_or] at hb
      exact hs'.extBut _ _ hb.2.1 (hs₂ _ _ hb.1 e)
    | some v =>
      have hlt : i < vs.length := (List.getElem?_eq_some_iff.mp hv).1
      refine wpAny_pyNext_list_item hit hl' (by simpa using hv) fun h₂ hit₂ hs₂ => ?_
      refine wpAny_assign_Name (wpAny_storeName_local (lookup_relabel_local hx) (hn.at' fun o e => hs₂.extBut _ o nCI e) (fun h₃ hn₃ hs₃ => ?_) (by simp [compEnvC, relabel, hkind]))
      refine wpAny_tests_nil ?_
      simp only [if_true]
      have hit₃ : h₃.IsListIter I l (i + 1) := hit₂.at fun o e => hs₃.extBut _ o (Ne.symm nCI) e
      have hD₃ : h₃.get? D = some (lst ys) := hs₃.extBut _ _ (Ne.symm nCD) (hs₂.extBut _ _ nDI hD)
      have hJ₃ := stab _ _ _ s' h₃ (s'.toks) hJ fun b o hb e => by
        simp only [List.mem_cons, List.not_mem_nil, or_false, not_or] at hb
        exact hs₃.extBut _ _ hb.2.1 (hs₂.extBut _ _ hb.1 e)
      refine wpAny_mono (elem [I, C, D] C i v ys _ _ _ (stab _ _ _ s' h₃ _ hJ fun b o hb e => by
        simp only [List.mem_cons, List.not_mem_nil, or_false, not_or] at hb
        exact hs₃.extBut _ _ hb.2.1 (hs₂.extBut _ _ hb.1 e)) hv hn₃ (by simp) (by simp) (fun b hb => ?_)) (fun y s₄ h₄ => ?_) fun _ _ e => e
      · simp only [List.mem_cons, List.not_mem_nil, or_false] at hb
        rcases hb with rfl | rfl | rfl
        · obtain ⟨o, ho, _⟩ := hit₃; exact ⟨o, ho⟩
        · obtain ⟨o, _, _, ho, _⟩ := hn₃; exact ⟨o, ho⟩
        · exact ⟨_, hD₃⟩
      · obtain ⟨hJ₄, hk₄⟩ := h₄
        dsimp only at hk₄
        have kI := hk₄ I (by simp)
        have kC := hk₄ C (by simp)
        have kD := hk₄ D (by simp)
        refine append_at (hsz := by show ys.toArray.size ≤ sizeLine; rw [List.size_toArray, hyl]; exact Nat.le_trans hi hsz) (kD.trans hD₃) fun h₅ hs₅ hD₅ => ?_
        refine ⟨vs.length + 1 - (i + 1), by omega, i + 1, ys ++ [y], _, hlt, rfl, by rw [List.length_append, List.length_singleton, hyl], stab _ _ _ s₄ h₅ s₄.toks hJ₄ fun b o hb e => ?_, hit₃.at fun o e => hs₅.extBut _ o (Ne.symm nDI) (kI.trans e), hn₃.at' fun o e => hs₅.extBut _ o nCD (kC.trans e), hD₅.trans (congrArg some (lst_snoc ys y))⟩
        simp only [List.mem_cons, List.not_mem_nil, or_false, not_or] at hb
        exact hs₅.extBut _ _ hb.2.2 e
  have W := Walks.list (prog := Mine.prog) (w := w) hh I l
  exact codeAny_compStart_list (loop _ rfl) (wpAny_pyIter_listiter ⟨_, hI3, rfl, rfl⟩ (loop _ rfl))
end
end
section
open PyProof.Rows.LCg
section
variable {w : World} {A : Around} {E : Value → Shared → Prop} {env : Env}
/-- y = [elt for x in l] for a local y: the store is made before the block's names are let go -/
theorem assignS {s : Shared} {elt iter : PySem.Expr} {x y : Str} {px py spos : Pos} {scope : Scope} {cl : List (Str × Addr)} {pos : Pos} {Q : Flow → Shared → Prop} {l : Addr} {vs : List Value} {m : Str → Option Value} (J : List Addr → Nat → List Value → Shared → Prop)
    (hsw : swapsWith (.ListComp elt [⟨.Name x px, iter, [], 0⟩] scope pos) (some (.Name y py)) spos.line env = pure true) (hy : env.kindOf y = some .local) (hp : (env.scope.kind == .class || (env.scope.kind == .module && env.locals != env.globals)) = false)
    (hLs : ∃ o, s.heap.get? env.locals = some o) (hfr : ∀ bad i ys s₁, J bad i ys s₁ → (∀ b ∈ bad, s.heap.get? b = none) → s₁.heap.Ns env.locals m)
    (hh : A.handled = none) (hclos : closureFor scope env = pure cl) (hcell : ∀ z ∈ scope.names, z.2 ≠ .cell) (hkind : scope.kind = .function)
    (hnames : ∀ z ∈ scope.names, z.2 = .local → scope.names.lookup z.1 = some .local) (hx : scope.names.lookup x = some .local)
    (hiter : wpAny (model Mine.prog w) A (eval iter env) (fun xv s₁ => xv = .ref l ∧ s₁ = s) E s) (hsz : vs.length ≤ sizeLine)
    (hl : ∀ bad i ys s₁, J bad i ys s₁ → s₁.heap.IsList l vs.toArray)
    (J0 : ∀ bad, (∀ b ∈ bad, s.heap.get? b = none) → J bad 0 [] s)
    (stab : ∀ bad i ys (s₁ : Shared) h' tk, J bad i ys s₁ → (∀ b o, b ∉ bad → s₁.heap.get? b = some o → h'.get? b = some o) → J bad i ys { s₁ with heap := h', toks := tk })
    (elem : ∀ bad C i v ys (s₁ : Shared) m₁ E', J bad i ys s₁ → vs[i]? = some v → s₁.heap.Ns C m₁ → m₁ x = some v → C ∈ bad → (∀ b ∈ bad, ∃ o, s₁.heap.get? b = some o) →
      wpAny (model Mine.prog w) A (eval elt (compEnvC scope cl C env)) (fun y s₂ => J bad (i + 1) (ys ++ [y]) s₂ ∧ ∀ b ∈ bad, s₂.heap.get? b = s₁.heap.get? b) E' s₁)
    (done : ∀ bad D ys (s₁ : Shared) h' tk', J bad vs.length ys s₁ → D ∈ bad → (∀ b ∈ bad, s.heap.get? b = none) → ys.length = vs.length → (∀ b o, b ≠ env.locals → b ∉ bad → s₁.heap.get? b = some o → h'.get? b = some o) → h'.get? D = some (lst ys) →
      h'.Ns env.locals (fun z => if z = y then some (.ref D) else m z) → Q .next { s₁ with heap := h', toks := tk' })
    (hs : ∀ x, foldedSetIterable iter env x = pure x := by intro _; rfl) :
    wpAny (model Mine.prog w) A (exec (.Assign [.Name y py] (.ListComp elt [⟨.Name x px, iter, [], 0⟩] scope pos) spos) env) Q E s := by
  rw [exec_Assign_Name_used _ _ _ _ hsw]
  refine wpAny_bind (wpAny_standAt (wpAny_bind ?_))
  show wpAny _ A (do let _ ← comprehension (.ListComp elt [⟨.Name x px, iter, [], 0⟩] scope pos) scope env _ (newList []) false (eval iter env) (some (assign (.Name y py) env))) _ _ s
  refine wpAny_bind (wpAny_mono (wpAny_comprehension_free (use := some (assign (.Name y py) env)) (Q := fun _ s' => Q .next s') rfl hs hclos hkind hnames (wpAny_mono hiter (fun xv s₁ h₁ => ?_) fun _ _ e => e)) (fun _ s' hq => wpAny_pure (wpAny_pure hq)) fun _ _ e => e)
  obtain ⟨rfl, rfl⟩ := h₁
  have hI0 : s₁.heap.IsList l vs.toArray := hl [] 0 [] s₁ (J0 [] (fun b hb => nomatch hb))
  refine wpAny_pyIter_list hI0 ?_
  refine wpAny_newObj_type (wpAny_newFunctionEnv hcell (by intro y hy; simp at hy) (fun h₁ hns₁ hsb₁ => ?_) hkind)
  dsimp only at hns₁ hsb₁ ⊢
  have hI1 : (s₁.heap.push { cls := .type "list_iterator", data := .fields #[.ref l, .int 0 0] }).get? s₁.heap.objs.size = some { cls := .type "list_iterator", data := .fields #[.ref l, .int 0 0] } := Heap.get?_push_size _ rfl
  have old1 : ∀ b o, s₁.heap.get? b = some o → (s₁.heap.push { cls := .type "list_iterator", data := .fields #[.ref l, .int 0 0] }).get? b = some o := fun _ _ e => Heap.get?_push_of_some _ e
  have sz1 : (s₁.heap.push { cls := .type "list_iterator", data := .fields #[.ref l, .int 0 0] }).objs.size = s₁.heap.objs.size + 1 := Heap.size_push _ _
  generalize s₁.heap.push { cls := .type "list_iterator", data := .fields #[.ref l, .int 0 0] } = H1 at hns₁ hsb₁ hI1 old1 sz1 ⊢
  have hD2 : (H1.push { cls := .type "list", dict := none, data := .seq ([] : List Value).toArray }).get? H1.objs.size = some (lst []) := Heap.get?_push_size _ rfl
  have old2 : ∀ b o, H1.get? b = some o → (H1.push { cls := .type "list", dict := none, data := .seq ([] : List Value).toArray }).get? b = some o := fun _ _ e => Heap.get?_push_of_some _ e
  have sz2 : (H1.push { cls := .type "list", dict := none, data := .seq ([] : List Value).toArray }).objs.size = H1.objs.size + 1 := Heap.size_push _ _
  generalize H1.push { cls := .type "list", dict := none, data := .seq ([] : List Value).toArray } = H2 at hns₁ hsb₁ hD2 old2 sz2 ⊢
  have fresh : ∀ a, s₁.heap.objs.size ≤ a → s₁.heap.get? a = none := fun a ha => Heap.get?_none_of_le ha
  have nCI : H2.objs.size ≠ s₁.heap.objs.size := by rw [sz2, sz1]; omega
  have nCD : H2.objs.size ≠ H1.objs.size := by rw [sz2]; omega
  have nDI : H1.objs.size ≠ s₁.heap.objs.size := by rw [sz1]; omega
  have up : ∀ b o, b ≠ H2.objs.size → H2.get? b = some o → h₁.get? b = some o := fun b o hb e => hsb₁.extBut b o hb (Heap.get?_push_of_some _ e)
  have old : ∀ b o, s₁.heap.get? b = some o → h₁.get? b = some o := fun b o e => up b o (Nat.ne_of_lt (Nat.lt_of_lt_of_le (Heap.lt_size e) (by rw [sz2, sz1]; exact Nat.le_succ_of_le (Nat.le_succ _)))) (old2 _ _ (old1 _ _ e))
  have hI3 : h₁.get? s₁.heap.objs.size = some { cls := .type "list_iterator", data := .fields #[.ref l, .int 0 0] } := up _ _ (Ne.symm nCI) (old2 _ _ hI1)
  have hD3 : h₁.get? H1.objs.size = some (lst []) := up _ _ (Ne.symm nCD) hD2
  have fI : s₁.heap.get? s₁.heap.objs.size = none := fresh _ (Nat.le_refl _)
  have fD : s₁.heap.get? H1.objs.size = none := fresh _ (by rw [sz1]; omega)
  have fC : s₁.heap.get? H2.objs.size = none := fresh _ (by rw [sz2, sz1]; omega)
  clear hsb₁ up hI1 hD2 old1 old2 sz1 sz2 fresh
  generalize H2.objs.size = C at *
  generalize H1.objs.size = D at *
  generalize s₁.heap.objs.size = I at *
  have loop : ∀ s₃ : Shared, s₃ = { s₁ with heap := h₁, toks := s₁.toks + ([] : List (Str × Value)).length } →
      codeAny (model Mine.prog w) A (.compLoop (.ListComp elt [⟨.Name x px, iter, [], 0⟩] scope pos) 0 (.ref I) (.ref D) (compEnvC scope cl C env)) (compPost (model Mine.prog w) A E (some (assign (.Name y py) env)) (fun _ s' => Q .next s') (.ref D) C) s₃ := by
    rintro s₃ rfl
    refine codeAny_compLoop_tests
      (fun k s' => ∃ i ys m', i ≤ vs.length ∧ k = vs.length + 1 - i ∧ ys.length = i ∧ J [I, C, D] i ys s' ∧ s'.heap.IsListIter I l i ∧ s'.heap.Ns C m' ∧ s'.heap.get? D = some (lst ys)) ?_ (vs.length + 1)
      ⟨0, [], _, Nat.zero_le _, rfl, rfl, stab [I, C, D] 0 [] s₁ h₁ _ (J0 _ (fun b hb => by
        simp only [List.mem_cons, List.not_mem_nil, or_false] at hb
        rcases hb with rfl | rfl | rfl
        · exact fI
        · exact fC
        · exact fD)) (fun b o _ e => old b o e), ⟨_, hI3, rfl, rfl⟩, hns₁, hD3⟩
    rintro k s' hY117z
    refine ex3 hY117z ?_
    intro i ys m' hZ118z
    clear hY117z
    refine and7 hZ118z ?_
    intro hi hR119z hyl hJ hit hn hD
    clear hZ118z
    subst hR119z
    have hl' := hl _ _ _ _ hJ
    cases hv : vs[i]? with
    | none =>
      have hin : i = vs.length := Nat.le_antisymm hi (List.getElem?_eq_none_iff.mp hv)
      refine wpAny_pyNext_list_end hh hit hl' (by simpa using hv) fun h₂ hs₂ => ?_
      have fresh3 : ∀ b ∈ [I, C, D], s₁.heap.get? b = none := fun b hb => by
        simp only [List.mem_cons, List.not_mem_nil, or_false] at hb
        rcases hb with rfl | rfl | rfl
        · exact fI
        · exact fC
        · exact fD
      have hJe := stab _ _ _ s' h₂ s'.toks hJ fun b o hb e => by
        simp only [List.mem_cons, List.not_mem_nil, or_false, not_or] at hb
        exact hs₂ _ _ hb.1 e
      have hnL := hfr _ _ _ _ hJe fresh3
      dsimp only at hnL
      obtain ⟨oL0, hoL0⟩ := hLs
      have hLn : ∀ b, s₁.heap.get? b = none → b ≠ env.locals := fun b hb q => by rw [q, hoL0] at hb; cases hb
      show wpAny _ A (assign (.Name y py) env (.ref D)) _ _ _
      refine wpAny_assign_Name (wpAny_storeName_local hy hnL (fun h₃ hn₃ hs₃ => ?_) hp)
      refine ⟨m', (hn.at' fun o e => hs₂ _ o nCI e).at' fun o e => hs₃.extBut _ o (hLn _ fC) e, fun h' hs' => ?_⟩
      refine done [I, C, D] D ys ({ s' with heap := h₂ } : Shared) h' _ (hin ▸ hJe) (by simp) fresh3 (hyl.trans hin) (fun b o hbL hb e => ?_) (hs'.extBut _ _ (Ne.symm nCD) (hs₃.extBut _ _ (hLn _ fD) (hs₂ _ _ nDI hD))) (hn₃.at' fun o e => hs'.extBut _ o (Ne.symm (hLn _ fC)) e)
      simp only [List.mem_cons, List.not_mem_nil, or_false, not_or] at hb
      exact hs'.extBut _ _ hb.2.1 (hs₃.extBut _ _ hbL e)
    | some v =>
      have hlt : i < vs.length := (List.getElem?_eq_some_iff.mp hv).1
      refine wpAny_pyNext_list_item hit hl' (by simpa using hv) fun h₂ hit₂ hs₂ => ?_
      refine wpAny_assign_Name (wpAny_storeName_local (lookup_relabel_local hx) (hn.at' fun o e => hs₂.extBut _ o nCI e) (fun h₃ hn₃ hs₃ => ?_) (by simp [compEnvC, relabel, hkind]))
      refine wpAny_tests_nil ?_
      simp only [if_true]
      have hit₃ : h₃.IsListIter I l (i + 1) := hit₂.at fun o e => hs₃.extBut _ o (Ne.symm nCI) e
      have hD₃ : h₃.get? D = some (lst ys) := hs₃.extBut _ _ (Ne.symm nCD) (hs₂.extBut _ _ nDI hD)
      have hJ₃ := stab _ _ _ s' h₃ (s'.toks) hJ fun b o hb e => by
        simp only [List.mem_cons, List.not_mem_nil, or_false, not_or] at hb
        exact hs₃.extBut _ _ hb.2.1 (hs₂.extBut _ _ hb.1 e)
      refine wpAny_mono (elem [I, C, D] C i v ys _ _ _ (stab _ _ _ s' h₃ _ hJ fun b o hb e => by
        simp only [List.mem_cons, List.not_mem_nil, or_false, not_or] at hb
        exact hs₃.extBut _ _ hb.2.1 (hs₂.extBut _ _ hb.1 e)) hv hn₃ (by simp) (by simp) (fun b hb => ?_)) (fun y s₄ h₄ => ?_) fun _ _ e => e
      · simp only [List.mem_cons, List.not_mem_nil, or_false] at hb
        rcases hb with rfl | rfl | rfl
        · obtain ⟨o, ho, _⟩ := hit₃; exact ⟨o, ho⟩
        · obtain ⟨o, _, _, ho, _⟩ := hn₃; exact ⟨o, ho⟩
        · exact ⟨_, hD₃⟩
      · obtain ⟨hJ₄, hk₄⟩ := h₄
        dsimp only at hk₄
        have kI := hk₄ I (by simp)
        have kC := hk₄ C (by simp)
        have kD := hk₄ D (by simp)
        refine append_at (hsz := by show ys.toArray.size ≤ sizeLine; rw [List.size_toArray, hyl]; exact Nat.le_trans hi hsz) (kD.trans hD₃) fun h₅ hs₅ hD₅ => ?_
        refine ⟨vs.length + 1 - (i + 1), by omega, i + 1, ys ++ [y], _, hlt, rfl, by rw [List.length_append, List.length_singleton, hyl], stab _ _ _ s₄ h₅ s₄.toks hJ₄ fun b o hb e => ?_, hit₃.at fun o e => hs₅.extBut _ o (Ne.symm nDI) (kI.trans e), hn₃.at' fun o e => hs₅.extBut _ o nCD (kC.trans e), hD₅.trans (congrArg some (lst_snoc ys y))⟩
        simp only [List.mem_cons, List.not_mem_nil, or_false, not_or] at hb
        exact hs₅.extBut _ _ hb.2.2 e
  have W := Walks.list (prog := Mine.prog) (w := w) hh I l
  exact codeAny_compStart_list (loop _ rfl) (wpAny_pyIter_listiter ⟨_, hI3, rfl, rfl⟩ (loop _ rfl))
end
end
section
noncomputable def cd635 : ClassData := { name := Str.ofString "StringIO", bases := [.ref 158], mro := [.ref 635, .ref 158, .ref 131, .type "object"], ns := 634, qualname := Str.ofString "StringIO" }
noncomputable def obj635 : Obj := { cls := .type "type", data := .cls cd635, slots := #[some (.ref 391), none, some (.str (Str.ofString "StringIO") 981), some (.str (Str.ofString "StringIO") 989), some .none, some (.bool true)] }
theorem objnew_x {w : World} {A : Around} {Q E : Value → Shared → Prop} {h : Heap} {g : Array GenState} {d : Drawn} {tk : Nat} {os : OsState}
   (KX : (tKf w.params).In h) (hq : ∀ x dx h' tk', Kp h h' → h.get? x = none → h.get? dx = none → @Ne Nat x dx → h'.get? x = some (instObj 635 dx) → h'.get? dx = some emptyDict → Q (.ref x) ⟨h', g, d, tk', os⟩) :
   wpAny (model Mine.prog w) A (call (.builtin "object.__new__") [.ref 635]) Q E ⟨h, g, d, tk, os⟩ := by
  have hC : h.get? 635 = some obj635 := KX _ _ (by kernel_rfl)
  have here : Looks (model Mine.prog w) h (Bind.madeHere "object.__new__" (.ref 635)) () := Looks.of_peek KX (by kernel_rfl)
  have base : Looks (model Mine.prog w) h (Bind.staticBase (.ref 635)) (.type "object") := Looks.of_peek KX (by kernel_rfl)
  have made : Looks (model Mine.prog w) h (Bind.madeBy (.type "object")) (some "object.__new__") := Looks.of_peek KX (by kernel_rfl)
  have self : Looks (model Mine.prog w) h (isSubtype (.ref 635) (.ref 635)) true := looks_subIn KX (by kernel_rfl)
  have top : Looks (model Mine.prog w) h (isSubtype (.ref 635) (.type "object")) true := looks_subIn KX (by kernel_rfl)
  have typ : Looks (model Mine.prog w) h (isInstance (.ref 635) (.type "type")) true := looks_instIn KX (by kernel_rfl)
  have hi : Looks (model Mine.prog w) h (typeLookup (.ref 635) "__init__") (some (.ref 405)) := looks_findIn KX (by kernel_rfl)
  refine wpAny_call ?_
  have F := PySem.F.objNew
  refine codeAny_call_builtin_code (Code.quiet_builtin _ F.quiet) ?_
  simp only [checkBuiltinCall, F.kind, F.split, F.row]
  rw [show Bind.checkArgs "object.__new__" ⟨.hand, "object.__new__", "__new__", .cls, []⟩ ⟨[.ref 635], []⟩ = pure () from by kernel_rfl]
  repeat (first | simp only [bne_self_eq_false, Bool.false_eq_true, if_false] | with_reducible refine Looks.at here ?_ | lk)
  refine codeAny_builtin F.entry ?_
  unfold Builtin.«object.__new__»
  have hC2 : ((h.push emptyDict).push (instObj 635 h.objs.size)).get? 635 = some obj635 := Heap.get?_push_of_some _ (Heap.get?_push_of_some _ hC)
  repeat lk
  have hs : (h.push emptyDict).objs.size = h.objs.size + 1 := Heap.size_push _ _
  exact hq _ h.objs.size _ _ (fun b o e => Heap.get?_push_of_some _ (Heap.get?_push_of_some _ e)) (Heap.get?_none_of_le (hs ▸ Nat.le_succ _)) (Heap.get?_none_of_le (Nat.le_refl _)) (Nat.ne_of_gt (hs ▸ Nat.lt_succ_self _)) (Heap.get?_push_size _ rfl) (Heap.get?_push_of_some _ (Heap.get?_push_size _ rfl))
theorem getNew_x {w : World} {A : Around} {Q E : Value → Shared → Prop} {h : Heap} {g : Array GenState} {d : Drawn} {tk : Nat} {os : OsState} {u : Tok}
   (KX : (tKf w.params).In h) (hq : Q (.ref 128) ⟨h, g, d, tk, os⟩) :
   wpAny (model Mine.prog w) A (call (.builtin "type.__getattribute__") [.ref 635, .str (Str.ofString "__new__") u]) Q E ⟨h, g, d, tk, os⟩ := by
  refine wpAny_call ?_
  refine codeAny_call_builtin KF.slot_tga.plain KF.entry_tga ?_
  refine @check_slot (model Mine.prog w) _ _ ⟨h, g, d, tk, os⟩ "type.__getattribute__" "type" "__getattribute__" (.ref 635) [.str (Str.ofString "__new__") u] [] _ (by decide +kernel) (by decide +kernel) (looks_instIn KX (by kernel_rfl)) (KF.args_tga _ _) ?_
  refine tga_run (s := ⟨h, g, d, tk, os⟩) (mc := .type "type") (r := .get (.builtin "staticmethod.__get__") (.ref 132) .none (.ref 635)) KX (looks_opaque KX (by kernel_rfl)) (looks_typeIn KX (by kernel_rfl)) (by kernel_rfl) ?_
  refine wpAny_bind (wpAny_holding (wpAny_call (sm_get (s := ⟨h, g, d, tk, os⟩) KX (f := .ref 128) (rest := []) (by kernel_rfl) ?_)))
  exact wpAny_pure hq
theorem made635 {M : Model} {h : Heap} {P : Params} (X : (tKf P).In h) : Looks M h (Bind.madeBy (.ref 635)) none := by
  have hc : clsIn (tKf P) 635 = some cd635 := by kernel_rfl
  have hm : Looks M h (mroOf (.ref 635)) cd635.mro := (looks_clsIn X hc).andThen .now
  have ho : (tKf P).lookup 635 = some obj635 := by kernel_rfl
  intro A Q E s k q
  unfold Bind.madeBy
  refine wpAny_bind (hm A _ E s k ?_)
  rw [show cd635.mro = .ref 635 :: [.ref 158, .ref 131, .type "object"] from rfl, List.forIn_cons]
  refine wpAny_bind (wpAny_bind (wpAny_bind (wpAny_bind (wpAny_loadPart (k _ _ (X _ _ ho)) (wpAny_pure ?_)))))
  dsimp only
  rw [← Array.getElem?_toList, show (obj635.slots.toList[4]?).join = some .none from rfl]
  exact wpAny_pure (wpAny_pure (wpAny_pure q))
noncomputable def MkPost (w : World) (A' : Around) (rest : List Value) (R : Result → Shared → Prop) (r : Result) (s' : Shared) : Prop := match r with
  | .ok (.ret v) => ∃ x dx, v = .ref x ∧ s'.heap.get? x = some (instObj 635 dx) ∧ (tKf w.params).In s'.heap ∧ codeAny (model Mine.prog w) A' (.call (.ref 405) ⟨.ref x :: rest, []⟩) (InitBack x R) s'
  | .ok _ => False
  | .error e => R (.error e) s'
theorem make635 {w : World} {A : Around} {s : Shared} {rest : List Value} {R : Result → Shared → Prop} (X : (tKf w.params).In s.heap)
    (hN : ∀ tk', codeAny (model Mine.prog w) (A.under (.builtin "type.__call__" ⟨.ref 635 :: rest, []⟩)) (.call (.ref 128) ⟨.ref 635 :: rest, []⟩) (MkPost w (A.under (.builtin "type.__call__" ⟨.ref 635 :: rest, []⟩)) rest R) { s with toks := tk' }) :
    codeAny (model Mine.prog w) A (.call (.ref 635) ⟨rest, []⟩) R s := by
  obtain ⟨h, g, d, t, os⟩ := s
  have hC : h.get? 635 = some obj635 := X _ _ (by kernel_rfl)
  have call : Looks (model Mine.prog w) h (specialOf (.ref 635) "__call__") (some (.builtin "type.__call__")) := looks_specialIn X (by kernel_rfl)
  have typ : Looks (model Mine.prog w) h (isInstance (.ref 635) (.type "type")) true := looks_instIn X (by kernel_rfl)
  have made := made635 (M := model Mine.prog w) X
  have hm : Looks (model Mine.prog w) h (mroOf (.ref 635)) cd635.mro := (looks_clsIn X (by kernel_rfl)).andThen .now
  have e4 : cd635.mro.isEmpty = false := rfl
  refine codeAny_of_tree ?_
  show wpAny _ _ (callAny (.ref 635) _) _ _ _
  refine nd_load hC ?_
  show wpAny _ _ (callAny.viaDunder (.ref 635) _) _ _ _
  unfold callAny.viaDunder
  refine wpAny_bind (call.at ?_)
  dsimp only
  rw [tc_bind]
  refine wpAny_bind (wpAny_pure (wpAny_bind (wpAny_pure ?_)))
  refine wpAny_pure (a := Fin.again (.call (.builtin "type.__call__") ⟨.ref 635 :: rest, []⟩)) (And.intro rfl ?_)
  refine codeAny_call_builtin_at (Code.quiet_builtin _ (by decide +kernel)) entry_typeCall (check_slot tc_kind tc_split typ (tc_args _ _ _) ?_)
  unfold Builtin.«type.__call__»
  repeat (first | simp only [e4, Bool.false_eq_true, if_false] | lk)
  show wpAny _ _ ((PySem.call (.builtin "type.__getattribute__") [.ref 635, .str (Str.ofString "__new__") t]).attempt) _ _ _
  refine wpAny_attempt (getNew_x X ?_)
  dsimp only
  repeat (first | with_reducible refine wpAny_call ?_ | lk)
  refine codeAny_mono (hN _) fun r s' z => ?_
  rcases r with e | (v | _ | _ | _)
  · exact z
  · exact z.elim
  · exact z.elim
  · exact z.elim
  · obtain ⟨x, dx, rfl, hx, X', z⟩ := z
    obtain ⟨h', g', d', t', os'⟩ := s'
    have t1 : Looks (model Mine.prog w) h' (typeOf (.ref x)) (.ref 635) := (Looks.ld hx).andThen .now
    have s1 : Looks (model Mine.prog w) h' (isSubtype (.ref 635) (.ref 635)) true := looks_subIn X' (by kernel_rfl)
    have i1 : Looks (model Mine.prog w) h' (typeLookup (.ref 635) "__init__") (some (.ref 405)) := looks_findIn X' (by kernel_rfl)
    have b1 : Looks (model Mine.prog w) h' (bindSpecial (.ref 405) (.ref x)) (.ref 405, [.ref x]) := bind_fn X' (.ref x) (by kernel_rfl)
    dsimp only
    unfold isInstance callSpecial? specialOf
    repeat (first | with_reducible refine wpAny_call ?_ | lk)
    refine codeAny_mono z fun r s' z => ?_
    rcases r with e | (v | _ | _ | _) <;> first | exact z | exact z.elim | skip
    obtain ⟨rfl, z⟩ := z
    exact wpAny_pure (wpAny_pure z)
end
section
section
variable {w : World} {A : Around} {E : Value → Shared → Prop} {s : Shared} {h₀ : Heap} {L : Addr} {m : Str → Option Value} {news : List (Addr × Obj)} {Q : Value → Shared → Prop}
theorem objnew_K (F : Fr h₀ L s.heap m) (N : News h₀ L s.heap news) (X : (tKf w.params).In h₀)
    (h : ∀ x dx h' tk', Fr h₀ L h' m → News h₀ L h' ((x, instObj 635 dx) :: (dx, dictOf [] 0) :: news) → GnNe x news → GnNe dx news → @Ne Nat x dx → Q (.ref x) { s with heap := h', toks := tk' }) :
    wpAny (model Mine.prog w) A (call (.builtin "object.__new__") [.ref 635]) Q E s := by
  obtain ⟨hp, g, d, tk, os⟩ := s
  refine objnew_x (X.keeps F.keep) fun x dx h' tk' k nx ndx hne hx hdx => ?_
  have N1 := news_more F N k ndx hdx
  have F1 := F.keeps k
  refine h x dx h' tk' F1 ?_ (gnNe_of (ne_of_fresh N nx)) (gnNe_of (ne_of_fresh N ndx)) hne
  intro p hp'
  rcases List.mem_cons.mp hp' with rfl | hp'
  · have z := news_more F N k nx hx
    exact z _ (.head _)
  · exact N1 p hp'
end
end
section
noncomputable def dqObj : Obj := { cls := .type "collections.deque", data := .fields #[.none, .int 0 0] }
theorem close_dq {h h' : Heap} {a : Addr} {Q : Value → Shared → Prop} {g : Array GenState} {d : Drawn} {tk : Nat} {os : OsState} (hq : ∀ x h' tk', Kp h h' → h.get? x = none → h'.get? x = some dqObj → Q (.ref x) ⟨h', g, d, tk', os⟩)
    (D : Mem h h' [] [(a, ({ cls := .type "collections.deque", data := .fields { toList := [.none, .int 0 0] } } : Obj))]) : Q (.ref a) ⟨h', g, d, tk, os⟩ :=
  hq a h' tk (kp_mem D) (D.nw _ (.head _)).2 (D.nw _ (.head _)).1
theorem close_f {h h' : Heap} {Q : Value → Shared → Prop} {g : Array GenState} {d : Drawn} {tk : Nat} {os : OsState} {news : List (Addr × Obj)} {v : Value} (hq : ∀ t' h' tk', Kp h h' → Q (.int 0 t') ⟨h', g, d, tk', os⟩) (D : Mem h h' [] news) (e : v = .int 0 tk) : Q v ⟨h', g, d, tk, os⟩ := by
  subst e; exact hq _ _ _ (kp_mem D)
local macro_rules | `(tactic| x_close) => `(tactic| first | (exact wpAny_pure (close_dq (by assumption) (by assumption))) | (exact close_dq (by assumption) (by assumption)) | assumption)
theorem deque_x {w : World} {A : Around} {Q E : Value → Shared → Prop} {h : Heap} {g : Array GenState} {d : Drawn} {tk : Nat} {os : OsState} 
   (hq : ∀ x h' tk', Kp h h' → h.get? x = none → h'.get? x = some dqObj → Q (.ref x) ⟨h', g, d, tk', os⟩) :
   wpAny (model Mine.prog w) A (call (.type "collections.deque") []) Q E ⟨h, g, d, tk, os⟩ := by
  x_run
theorem close_int {h : Heap} {Q : Value → Shared → Prop} {g : Array GenState} {d : Drawn} {t tk : Nat} {os : OsState} (hq : ∀ t' tk', Q (.int 0 t') ⟨h, g, d, tk', os⟩) : Q (.int 0 t) ⟨h, g, d, tk, os⟩ := hq _ _
local macro_rules | `(tactic| x_close) => `(tactic| first | (exact close_int (by assumption)) | (exact wpAny_pure (close_int (by assumption))))
theorem dqlen_x {w : World} {A : Around} {Q E : Value → Shared → Prop} {h : Heap} {g : Array GenState} {d : Drawn} {tk : Nat} {os : OsState} {a : Addr} (ha : h.get? a = some ⟨.type "collections.deque", none, .fields #[.none, .int 0 0], #[]⟩)
   (hq : ∀ t' tk', Q (.int 0 t') ⟨h, g, d, tk', os⟩) :
   wpAny (model Mine.prog w) A (runValue (.builtin "len" ⟨[.ref a], []⟩)) Q E ⟨h, g, d, tk, os⟩ := by
  x_run
theorem dqtruth {w : World} {A : Around} {Q : Bool → Shared → Prop} {E : Value → Shared → Prop} {h : Heap} {g : Array GenState} {d : Drawn} {tk : Nat} {os : OsState} {a : Addr} (ha : h.get? a = some ⟨.type "collections.deque", none, .fields #[.none, .int 0 0], #[]⟩)
   (hq : ∀ tk', Q false ⟨h, g, d, tk', os⟩) :
   wpAny (model Mine.prog w) A (truthy (.ref a)) Q E ⟨h, g, d, tk, os⟩ := by
  have hT : (⟨h, g, d, tk, os⟩ : Shared).TypeIs (.ref a) "collections.deque" := ⟨_, ha, rfl⟩
  have b1 : typeLookup (.type "collections.deque") "__bool__" = pure none := by rw [typeLookup_type, builtinLookup_eq_fast]; kernel_rfl
  have b2 : typeLookup (.type "collections.deque") "__len__" = pure (some (.builtin "collections.deque.__len__")) := by rw [typeLookup_type, builtinLookup_eq_fast]; kernel_rfl
  have key : wpAny (model Mine.prog w) A (runValue (.builtin "len" ⟨[.ref a], []⟩)) (fun r s' => ∃ t, r = .int 0 t ∧ Q false s') E ⟨h, g, d, tk, os⟩ := dqlen_x ha fun t' tk' => ⟨t', rfl, hq tk'⟩
  unfold truthy
  iterate 8 (first | assumption | wp_step)
  refine wpAny_bind (wpAny_mono key (fun r s' h' => ?_) fun _ _ e => e)
  obtain ⟨t, rfl, hq'⟩ := h'
  exact wpAny_pure hq'
section
variable {w : World} {A : Around} {E : Value → Shared → Prop} {s : Shared} {h₀ : Heap} {L : Addr} {m : Str → Option Value} {news : List (Addr × Obj)}
theorem deque_K {Q : Value → Shared → Prop} (F : Fr h₀ L s.heap m) (N : News h₀ L s.heap news)
    (h : ∀ x h' tk', Fr h₀ L h' m → News h₀ L h' ((x, dqObj) :: news) → GnNe x news → Q (.ref x) { s with heap := h', toks := tk' }) :
    wpAny (model Mine.prog w) A (call (.type "collections.deque") []) Q E s := by
  obtain ⟨hp, g, d, tk, os⟩ := s
  exact deque_x fun x h' tk' k nx hx => h x h' tk' (F.keeps k) (news_more F N k nx hx) (gnNe_of (ne_of_fresh N nx))
theorem dqtruth_K {a : Addr} {Q : Bool → Shared → Prop} (N : News h₀ L s.heap news) (ha : (a, dqObj) ∈ news) (h : ∀ tk', Q false { s with toks := tk' }) : wpAny (model Mine.prog w) A (truthy (.ref a)) Q E s := by
  obtain ⟨hp, g, d, tk, os⟩ := s
  exact dqtruth (N _ ha).1 h
end
end
section
open PyProof.Rows.TI
section
variable {w : World} {A : Around} {E : Value → Shared → Prop} {s' : Shared} {g : Heap} {L L0 a e : Addr} {m : Str → Option Value} {name : Str} {scope : Scope} {cd : Value} {Q : Unit → Shared → Prop} {env0 : Env} {oL0 oe : Obj} {vs : Array Value} {new : List (Addr × Obj)}
theorem noteX (hfr : A.frames = some [envOf name scope L a cd, env0]) (Fs : Frs [env0] [(L0, oL0)]) (F : Fr g L s'.heap m) (N : News g L s'.heap ((e, oe) :: new ++ [(L0, oL0)])) (hd : oe.data = .fields vs) (hsz : 1 < vs.size) (h1 : vs[1]? = some .none)
    (hn0 : ∀ p ∈ new, @Ne Nat p.1 L0) (hne : ∀ p ∈ new, @Ne Nat p.1 e)
    (k : ∀ h' T oT ts sl, Fr g L h' m → News g L h' ((T, oT) :: (e, Obj.mapFields (·.setIfInBounds 1 (.ref T)) oe) :: new ++ [(L0, { oL0 with slots := sl })]) → oT.data = .fields ts → ts[3]? = some (rawInt L) → (∀ p ∈ (e, oe) :: new ++ [(L0, oL0)], @LT.lt Nat _ p.1 T) → @Ne Nat T L → Q () { s' with heap := h' })
    (hk : scope.kind = .function := by rfl) :
    wpAny (model Mine.prog w) A (noteFrame (.ref e) (envOf name scope L a cd)) Q E s' := by
  obtain ⟨hff, hNs, frs₁, SU, ht⟩ := frames_at (name := name) (a := a) (cd := cd) (h' := s'.heap) (base := gone s'.heap (L :: [(L0, oL0)].map (·.1))) hk Fs F N (by simp) (fun b o hb' => ⟨o.slots, hb'⟩) fun b hm => gone_none hm
  have he := (N (e, oe) (.head _)).1
  have hL0 := (N (L0, oL0) (by simp)).1
  obtain ⟨hkL, hfL, ⟨esL, epL, hdL⟩, _⟩ := id Fs
  have heL0 : e ≠ L0 := fun q => by rw [q, hL0] at he; cases he; rw [hd] at hdL; cases hdL
  have heL : e ≠ L := (N (e, oe) (.head _)).2.1
  have hLL : L0 ≠ L := (N (L0, oL0) (by simp)).2.1
  have hfs : (envOf name scope L a cd :: [env0]).filterMap (·.frame) = [L, L0] := frames_are Fs
  unfold noteFrame
  simp only [show (envOf name scope L a cd).frame = some L from rfl]
  refine wpAny_bind (wpAny_field he hd h1 ?_)
  rw [if_neg (by decide)]
  refine wpAny_bind (wpAny_frameOf_fun hfr hff rfl fun h₁ hs₁ => ?_)
  refine wpAny_bind (wpAny_entryPlaceOf fun pl hpl => ?_)
  unfold EntryCells.newEntry newFields
  refine wpAny_bind (wpAny_newObj_type ?_ (hpl.sizeOk5 _ _ _ _ _))
  rw [hfs] at hs₁
  have same : ∀ b, b ≠ L → b ≠ L0 → h₁.get? b = s'.heap.get? b := fun b x y => hs₁.2.1 b (by simp [x, y])
  have he₁ : h₁.get? e = some oe := (same e heL heL0).trans he
  let oT : Obj := { cls := .type "traceback", dict := none, data := .fields ([Value.none, .ref L, .none, rawInt L, .none] ++ (if pl.isEmpty then List.replicate 6 Value.none else pl)).toArray }
  have he₂ := Heap.get?_push_of_some (h := h₁) oT he₁
  refine wpAny_setField he₂ hd hsz ?_
  have hd₃ := Obj.data_mapFields hd (·.setIfInBounds 1 (Value.ref h₁.objs.size))
  have he₃ := Heap.get?_update_self (Obj.mapFields (·.setIfInBounds 1 (Value.ref h₁.objs.size))) he₂ (Obj.isFreed_of_fields hd₃)
  have hTe : h₁.objs.size ≠ e := Nat.ne_of_gt (Heap.lt_size he₁)
  have hT₃ := (Heap.get?_update_other (h₁.push oT) (Obj.mapFields (·.setIfInBounds 1 (Value.ref h₁.objs.size))) (Ne.symm hTe)).trans (Heap.get?_push_size h₁ rfl)
  have keep : ∀ b o, b ≠ e → h₁.get? b = some o → ((h₁.push oT).update e (Obj.mapFields (·.setIfInBounds 1 (Value.ref h₁.objs.size)))).get? b = some o := fun b o hbe hb => by
    rw [Heap.get?_update_other _ _ (Ne.symm hbe)]
    exact Heap.get?_push_of_some _ hb
  obtain ⟨oL, es, ep, hoL, r⟩ := F.ns
  obtain ⟨slL, hL₁⟩ := hs₁.2.2 L oL hoL
  obtain ⟨sl0, hL0₁⟩ := hs₁.2.2 L0 oL0 hL0
  have hgL : g.objs.size ≤ h₁.objs.size := Nat.le_trans F.above (Nat.le_of_lt (Heap.lt_size hL₁))
  have new₁ : ∀ p ∈ new, h₁.get? p.1 = some p.2 := fun p hp => (same p.1 (N p (by simp [hp])).2.1 (hn0 p hp)).trans (N p (by simp [hp])).1
  refine k _ h₁.objs.size oT _ sl0 ⟨⟨_, es, ep, keep L _ (Ne.symm heL) hL₁, r⟩, fun b o hb => ?_, F.above⟩ (fun p hp => ?_) rfl ?_ (fun p hp => ?_) (Nat.ne_of_gt (Heap.lt_size hL₁))
  · have hbL : b ≠ L := fun q => by rw [q, Heap.get?_none_of_le F.above] at hb; cases hb
    have hb0 : b ≠ L0 := fun q => by rw [q, (N (L0, oL0) (by simp)).2.2] at hb; cases hb
    have hbe : b ≠ e := fun q => by rw [q, (N (e, oe) (.head _)).2.2] at hb; cases hb
    exact keep b o hbe ((same b hbL hb0).trans (F.keep b o hb))
  · simp only [List.cons_append, List.mem_cons, List.mem_append, List.not_mem_nil, or_false] at hp
    rcases hp with rfl | rfl | hp | rfl
    · exact ⟨hT₃, Nat.ne_of_gt (Heap.lt_size hL₁), Heap.get?_none_of_le hgL⟩
    · exact ⟨he₃, heL, (N (e, oe) (.head _)).2.2⟩
    · exact ⟨keep _ _ (hne p hp) (new₁ p hp), (N p (by simp [hp])).2⟩
    · exact ⟨keep L0 _ (Ne.symm heL0) hL0₁, hLL, (N (L0, oL0) (by simp)).2.2⟩
  · simp
  · simp only [List.cons_append, List.mem_cons, List.mem_append, List.not_mem_nil, or_false] at hp
    rcases hp with rfl | hp | rfl
    · exact Heap.lt_size he₁
    · exact Heap.lt_size (new₁ p hp)
    · exact Heap.lt_size hL0₁
end
section
variable {w : World} {A : Around} {E : Value → Shared → Prop} {s : Shared} {g : Heap} {L : Addr} {m : Str → Option Value} {news : List (Addr × Obj)} {gU : Obj → List (Addr × Obj)}
theorem flightX {e T : Addr} {oe oT : Obj} {vs ts : Array Value} {fr : Option Addr} {Q : Unit → Shared → Prop} (F : Fr g L s.heap m) (N : News g L s.heap news) (he : (e, oe) ∈ news) (hd : oe.data = .fields vs) (h1 : vs[1]? = some (.ref T)) (U : UpdF T oT news gU) (hdT : oT.data = .fields ts) (h3 : 3 < ts.size)
    (k : ∀ h', Fr g L h' m → News g L h' (gU (Obj.mapFields (·.setIfInBounds 3 (fr.elim .none fun f => rawInt f)) oT)) → Q () { s with heap := h' }) : wpAny (model Mine.prog w) A (setFlight (.ref e) fr) Q E s := by
  obtain ⟨pre, post, rfl, hg, p1, p2⟩ := U.split
  have zT := N (T, oT) (List.mem_append_right _ (.head _))
  unfold setFlight
  refine wpAny_bind (wpAny_field (N _ he).1 hd h1 ?_)
  rw [if_pos (by simp)]
  refine wpAny_setField zT.1 hdT h3 (k _ (F.change (Heap.SameBut.update ..) zT.2.1 zT.2.2) ?_)
  rw [hg]
  exact news_set N p1 p2 (Heap.SameBut.update ..) (Heap.get?_update_self _ zT.1 (Obj.isFreed_of_fields (Obj.data_mapFields hdT _)))
theorem entry_unchain : entryFor table "proto.unchain" = some Builtin.«proto.unchain» := entryFor_of_tree (by kernel_rfl)
theorem plain_unchain : plainId "proto.unchain" = true := by decide +kernel
theorem raiseC {α : Type} {cls msg : String} {Q : α → Shared → Prop} (hp : PlainExc cls) {e0 : Addr} {oe0 : Obj} {vs0 : Array Value} (hh : A.handled = some (.ref e0)) (he0 : s.heap.get? e0 = some oe0) (hd0 : oe0.data = .fields vs0) (h02 : vs0[2]? = some .none)
    (h : ∀ h' tk e t, Kp s.heap h' → s.heap.get? e = none → h'.get? e = some { cls := .type cls, data := .fields #[t, .none, .ref e0, .none, .bool false, .none] } → E (.ref e) { s with heap := h', toks := tk }) :
    wpAny (model Mine.prog w) A (raiseErrorWords cls msg : Sem α) Q E s := by
  unfold raiseErrorWords
  refine wpAny_bind (wpAny_mkText (wpAny_bind ?_))
  unfold newExc newTuple
  refine wpAny_bind (wpAny_newObj_type ?_)
  refine wpAny_bind (m := firstArgMember _ _) (wpAny_of_eq (a := Value.none) (by simp only [firstArgMember, hp.first]; rfl) ?_)
  rw [hp.own]
  refine wpAny_newObj_type ?_
  unfold raiseNew
  refine wpAny_bind (wpAny_handled ?_)
  rw [hh]
  dsimp only
  have hlt := Heap.lt_size he0
  generalize hp1 : s.heap.push { cls := .type "tuple", data := .seq #[.str (Str.ofString msg) s.toks] } = h₁
  have hs1 : h₁.objs.size = s.heap.objs.size + 1 := by rw [← hp1, Heap.size_push]
  have k1 : ∀ b o, s.heap.get? b = some o → h₁.get? b = some o := fun b o e => hp1 ▸ Heap.get?_push_of_some _ e
  have hne : e0 ≠ h₁.objs.size := by rw [hs1]; exact Nat.ne_of_lt (Nat.lt_succ_of_lt hlt)
  rw [if_pos (by simp [hne])]
  refine wpAny_bind (wpAny_holding (wpAny_runValue (codeAny_builtin entry_unchain ?_)))
  unfold Builtin.«proto.unchain»
  dsimp only
  refine wpAny_bind (wpAny_field (Heap.get?_push_of_some _ (k1 _ _ he0)) hd0 h02 ?_)
  rw [if_pos (by decide)]
  refine wpAny_pure ?_
  dsimp only
  unfold updateField
  refine wpAny_bind (wpAny_bind (wpAny_load (Heap.get?_push_size _ rfl) ?_))
  dsimp only
  rw [if_pos (by simp)]
  refine wpAny_update (Heap.get?_push_size _ rfl) (wpAny_throw (h _ _ _ (.ref s.heap.objs.size) ?_ ?_ ?_))
  · intro b o e
    have hb : b ≠ h₁.objs.size := by intro q; have := Heap.lt_size (k1 _ _ e); rw [q] at this; exact Nat.lt_irrefl _ this
    exact (Heap.get?_update_other _ _ (Ne.symm hb)).trans (Heap.get?_push_of_some _ (k1 _ _ e))
  · exact Heap.get?_none_of_le (by rw [hs1]; omega)
  · exact Heap.get?_update_self _ (Heap.get?_push_size _ rfl) rfl
theorem getItem_outC {l : Addr} {items : Array Value} {k : Int} {t : Tok} {Q : Value → Shared → Prop} {e0 : Addr} {oe0 : Obj} {vs0 : Array Value} (hh : A.handled = some (.ref e0)) (he0 : s.heap.get? e0 = some oe0) (hd0 : oe0.data = .fields vs0) (h02 : vs0[2]? = some .none) (hl : s.heap.IsList l items)
    (hout : (items.size : Int) ≤ k) (hhi : k < 2 ^ 63)
    (hE : ∀ h' tk e t, Kp s.heap h' → s.heap.get? e = none → h'.get? e = some { cls := .type "IndexError", data := .fields #[t, .none, .ref e0, .none, .bool false, .none] } → E (.ref e) { s with heap := h', toks := tk }) :
    wpAny (model Mine.prog w) A (getItem (.ref l) (.int k t)) Q E s := by
  obtain ⟨o, ho, hc, ne, hd⟩ := id hl
  have hlo : -(2 ^ 63) ≤ k := by omega
  unfold getItem
  try with_reducible refine wpAny_holding ?_
  first | refine wpAny_bind (wpAny_pure ?_) | skip
  refine wpAny_bind (wpAny_sequenceKey hl.typeIs (by decide) ?_)
  refine wpAny_bind (wpAny_callSpecial?_slot (name := Str.ofString "__getitem__") hl.typeIs slot_list_getitem
    (wpAny_call_entry slot_list_getitem hl.typeIs entry_list_getitem ?_ (args_list_getitem _ _)))
  show wpAny _ _ (Builtin.List.listSubscript? (.int k t) >>= _) _ _ s
  refine wpAny_bind (wpAny_listSubscript_int (fitsIndex_both hlo hhi) ?_)
  clear hlo hhi
  cases k with
  | ofNat j =>
    have hx : items[j]? = none := Array.getElem?_eq_none (by have : (items.size : Int) ≤ (j : Int) := hout; omega)
    show wpAny _ _ ((seqItemAt l j >>= fun r => pure (r.map (j, ·))) >>= _) _ _ s
    refine wpAny_bind (wpAny_bind (wpAny_seqItemAt ho hd (wpAny_pure ?_)))
    rw [hx]
    first
      | exact wpAny_bind (wpAny_rule (raiseC plainExc_IndexError hh he0 hd0 h02 hE))
      | exact wpAny_bind (wpAny_rule (wpAny_bind (raiseC plainExc_IndexError hh he0 hd0 h02 hE)))
      | exact wpAny_bind (wpAny_bind (wpAny_rule (raiseC plainExc_IndexError hh he0 hd0 h02 hE)))
      | exact wpAny_rule (raiseC plainExc_IndexError hh he0 hd0 h02 hE)
  | negSucc j => exact absurd hout (by have := Int.negSucc_lt_zero j; omega)
theorem sub_outC {value slice : PySem.Expr} {l : Addr} {vs : List Value} {ns : List Str} {i : Nat} {k : Int} {u : Tok} {Q : Value → Shared → Prop} {e0 : Addr} {oe0 : Obj} {vs0 : Array Value} (hh : A.handled = some (.ref e0)) (he0 : s.heap.get? e0 = some oe0) (hd0 : oe0.data = .fields vs0) (h02 : vs0[2]? = some .none)
    (hl : s.heap.IsList l vs.toArray) (hi : StrsAre vs ns) (hk : k = (i : Nat)) (hx : ns[i]? = none) (hz : i ≤ 100000)
    (hE : ∀ h' tk e t, Kp s.heap h' → s.heap.get? e = none → h'.get? e = some { cls := .type "IndexError", data := .fields #[t, .none, .ref e0, .none, .bool false, .none] } → E (.ref e) { s with heap := h', toks := tk })
    (hs : subscripted slice false (.ref l) (.int k u) = operate [.ref l, .int k u] (getItem (.ref l) (.int k u)) := by with_unfolding_all rfl) :
    wpAny (model Mine.prog w) A (subscriptTail value slice (.ref l) (.int k u)) Q E s := by
  have hn := List.getElem?_eq_none_iff.mp hx
  have hlen := hi.length
  exact tail_any hl.typeIs slot_list_getitem.lookup (getItem_outC hh he0 hd0 h02 hl (by simp; omega) (by omega) hE) hs
theorem heldX {e T : Addr} {oe oT : Obj} {vs ts : Array Value} {X : String} {fl : Value} {rest : List (Addr × Obj)} (F : Fr g L s.heap m) (N : News g L s.heap news) (he : (e, oe) ∈ news) (hT : (T, oT) ∈ news) (hc : oe.cls = .type X) (hd : oe.data = .fields vs) (h1 : vs[1]? = some (.ref T)) (hdT : oT.data = .fields ts) (h3 : ts[3]? = some fl)
    (hr : ∀ p ∈ rest, p ∈ news) (hne : ∀ p ∈ rest, @Ne Nat p.1 T) (hTe : @Ne Nat T e) : TT.HeldNA g L s.heap m e X rest fl := by
  have ze := N _ he
  have zT := N _ hT
  refine ⟨⟨F, ⟨oe, vs, T, oT, ts, ze.1, hc, hd, h1, zT.1, hdT, h3, zT.2.1, hTe, zT.2.2⟩, ze.2.2⟩, fun p hp => N p (hr p hp), ?_⟩
  intro ob ws tb e1 e2 e3 p hp q
  rw [ze.1] at e1
  cases e1
  rw [hd] at e2
  cases e2
  rw [h1] at e3
  cases e3
  exact hne p hp q
theorem passX {α : Type} {env : Env} {what : String} {e T : Addr} {oe oT : Obj} {vs ts : Array Value} {Q : α → Shared → Prop} (F : Fr g L s.heap m) (N : News g L s.heap news) (he : (e, oe) ∈ news) (hd : oe.data = .fields vs) (h1 : vs[1]? = some (.ref T)) (U : UpdF T oT news gU) (hdT : oT.data = .fields ts) (h3 : 3 < ts.size) (hf : env.frame = some L)
    (k : ∀ h', Fr g L h' m → News g L h' (gU (Obj.mapFields (·.setIfInBounds 3 (rawInt L)) oT)) → E (.ref e) { s with heap := h' }) : wpAny (model Mine.prog w) A (PySem.passOn what (.ref e) env : Sem α) Q E s := by
  unfold PySem.passOn
  refine wpAny_bind (wpAny_field (N _ he).1 hd h1 ?_)
  rw [if_neg (by simp), hf]
  refine wpAny_bind (flightX (fr := some L) F N he hd h1 U hdT h3 fun h' F' N' => ?_)
  exact wpAny_throw (k h' F' N')
theorem againX {env : Env} {e T : Addr} {oe oT : Obj} {vs ts : Array Value} {Q : Unit → Shared → Prop} (N : News g L s.heap news) (he : (e, oe) ∈ news) (hT : (T, oT) ∈ news) (hd : oe.data = .fields vs) (h1 : vs[1]? = some (.ref T)) (hdT : oT.data = .fields ts) (h3 : ts[3]? = some (rawInt L)) (hf : env.frame = some L)
    (k : Q () s) : wpAny (model Mine.prog w) A (noteFrame (.ref e) env) Q E s := by
  unfold noteFrame
  simp only [hf]
  refine wpAny_bind (wpAny_field (N _ he).1 hd h1 ?_)
  rw [if_pos (by simp)]
  refine wpAny_bind (wpAny_field (N _ hT).1 hdT h3 ?_)
  rw [if_pos (by simp)]
  exact wpAny_pure k
theorem backX {env : Env} {e T : Addr} {oe oT : Obj} {vs ts : Array Value} (F : Fr g L s.heap m) (N : News g L s.heap news) (he : (e, oe) ∈ news) (hd : oe.data = .fields vs) (h1 : vs[1]? = some (.ref T)) (U : UpdF T oT news gU) (hdT : oT.data = .fields ts) (h3 : 3 < ts.size) (hf : env.frame = some L)
    (k : ∀ h', Fr g L h' m → News g L h' (gU (Obj.mapFields (·.setIfInBounds 3 (rawInt L)) oT)) → E (.ref e) { s with heap := h' }) : cameBackBy (model Mine.prog w) A env E (.ref e) s := by
  unfold cameBackBy
  refine wpAny_bind (wpAny_field (N _ he).1 hd h1 ?_)
  rw [if_neg (by simp), hf]
  exact flightX (fr := some L) F N he hd h1 U hdT h3 fun h' F' N' => k h' F' N'
theorem field3 {ts : Array Value} {v : Value} (h : 3 < ts.size) : (ts.setIfInBounds 3 v)[3]? = some v := by simp [h]
end
end
section
open PySem.Builtin.Str
noncomputable abbrev ent (P : Params) (n : Str) (t : Tok) (v : Value) : DictEntry := { hash := PyData.keyHash P n, key := .str n t, val := v }
noncomputable abbrev sioEs (P : Params) (k : Nat → Tok) (B : Value) (p : Value) : List DictEntry :=
  [ent P (Str.ofString "_StringIO__newline") (k 0) (.str (Str.ofString "\n") 996), ent P (Str.ofString "_StringIO__buf") (k 1) B, ent P (Str.ofString "_StringIO__pos") (k 2) p]
noncomputable abbrev lexEs (P : Params) (k : Nat → Tok) (v : Nat → Tok) (sio pb fs : Addr) (st tok : Value) : List DictEntry :=
  [ent P (Str.ofString "instream") (k 0) (.ref sio), ent P (Str.ofString "infile") (k 1) .none, ent P (Str.ofString "posix") (k 2) (.bool true), ent P (Str.ofString "eof") (k 3) .none, ent P (Str.ofString "commenters") (k 4) (.str (Str.ofString "") (v 4)),
   ent P (Str.ofString "wordchars") (k 5) (.str (Str.ofString "abcdfeghijklmnopqrstuvwxyzABCDEFGHIJKLMNOPQRSTUVWXYZ0123456789_ßàáâãäåæçèéêëìíîïðñòóôõöøùúûüýþÿÀÁÂÃÄÅÆÇÈÉÊËÌÍÎÏÐÑÒÓÔÕÖØÙÚÛÜÝÞ") (v 5)),
   ent P (Str.ofString "whitespace") (k 6) (.str (Str.ofString " \t\x0d\n") (v 6)), ent P (Str.ofString "whitespace_split") (k 7) (.bool true), ent P (Str.ofString "quotes") (k 8) (.str (Str.ofString "'\"") (v 8)),
   ent P (Str.ofString "escape") (k 9) (.str (Str.ofString "\\") (v 9)), ent P (Str.ofString "escapedquotes") (k 10) (.str (Str.ofString "\"") (v 10)), ent P (Str.ofString "state") (k 11) st, ent P (Str.ofString "pushback") (k 12) (.ref pb),
   ent P (Str.ofString "lineno") (k 13) (.int 1 (v 13)), ent P (Str.ofString "debug") (k 14) (.int 0 (v 14)), ent P (Str.ofString "token") (k 15) tok, ent P (Str.ofString "filestack") (k 16) (.ref fs), ent P (Str.ofString "source") (k 17) .none,
   ent P (Str.ofString "_punctuation_chars") (k 18) (.str (Str.ofString "") (v 18))]
theorem cut_last (c : Nat) : Txt.slice (Str.mk #[c] ++ Str.ofString " ") none (some (-1)) = Str.mk #[c] := by
  have e : Str.mk #[c] ++ Str.ofString " " = Str.mk #[c, 32] := by
    rw [show Str.ofString " " = Str.mk #[32] from by decide +kernel]; rfl
  rw [e]
  unfold Txt.slice
  rw [show (Str.mk #[c, 32]).length = 2 from rfl, show strSliceIndices none (some (-1)) 1 2 = [0] from by decide +kernel, if_neg (by decide)]
  rfl
theorem read_char {x : Str} {p : Nat} {q : Int} (hp : p < x.length) (hq : q = (p : Int) + 1) : Txt.slice (Txt.slice x (some (p : Int)) (some q) ++ Str.ofString " ") none (some (-1)) = Str.mk #[x.cps.getD p 0] := by
  subst hq
  have h := eq_of_beq (slice_one_closes (x := x) (n := (p : Int)) (by omega) (by omega))
  rw [h, cut_last]
  rfl
theorem kx_two {h g h' : Heap} {L P P2 : Addr} {m : Str → Option Value} {o o2 : Obj} (G : GSub h g (List.map (fun x : Addr × Obj => x.1) [(P, o), (P2, o2)])) (F : Fr g L h' m) : Kx [P, P2] h h' := fun b o' hb e => F.keep b o' (G b o' e (by simpa using hb))
end
section
theorem read_spec {w : World} {A : Around} {s : Shared} {Q E : Value → Shared → Prop} {sio dx : Addr} {k : Nat → Tok} {x : Str} {t tp u : Tok} {p : Nat} (hc : CxN w A s.heap 3 [(sio, instObj 635 dx), (dx, dictOf (sioEs w.params k (.str x t) (.int (p : Nat) tp)) 3)]) (hne : @Ne Nat sio dx) (hx : x.length ≤ 10000) (hp : p ≤ x.length)
    (h0 : x.length ≤ p → ∀ t' h' tk', Kx [sio, dx] s.heap h' → h'.get? sio = some (instObj 635 dx) → h'.get? dx = some (dictOf (sioEs w.params k (.str x t) (.int (p : Nat) tp)) 3) → Q (.str (Str.ofString "") t') { s with heap := h', toks := tk' })
    (h1' : p < x.length → ∀ t' tp' h' tk', Kx [sio, dx] s.heap h' → h'.get? sio = some (instObj 635 dx) → h'.get? dx = some (dictOf (sioEs w.params k (.str x t) (.int ((p + 1 : Nat) : Int) tp')) 3) → Q (.str (Str.mk #[x.cps.getD p 0]) t') { s with heap := h', toks := tk' }) :
    wpAny (model prog w) A (call (.ref 581) [.ref sio, .int 1 u]) Q E s := by
  obtain ⟨dp, un, gd, cn, cs, L, a, ccd, cl, outer, A₀, base, h₀, m, mean, mg, mb, rfl, B, F, X, T, hk, h1, h2, N⟩ := hc
  refine wpAny_call ?_
  k_dflt (refine' code_defG ?k1 ?k2 ?k3 ?k4 ?k5 ?kA ?kF ?kK ?k6 ?k7 ?k8 ?k9 ?kB ?_ ?c2 ?c3 ?c4 ?c5; (case kA => exact rfl); (case kF => exact rfl); (case kK => assumption); (case k1 => k_asm); (case k2 => k_asm); (case k3 => k_asm); (case k4 => k_asm); (case k5 => k_asm); (case k6 => k_is); (case k7 => k_is); (case k8 => exact room (by assumption)); (case k9 => first | exact BindsTo.of_eq rfl | exact binds_K (by k_in) rfl (by k_is) rfl rfl rfl); (case c5 => decide); (case kB => exact locs rfl); (case c2 => exact rfl); (case c3 => exact rfl); (case c4 => exact rfl); k_whole; intro _ _ _ _ _ _ _ _ _ _; (try dsimp only))
  k_fold
  k_steps
  · (with_reducible rename GSub _ _ _ => Gq)
    (with_reducible rename Fr _ _ _ _ => Kf)
    (with_reducible rename News _ _ _ _ => Kn)
    clear Kf Kn
    (with_reducible rename Fr _ _ _ _ => F9)
    (with_reducible rename News _ _ _ _ => N9)
    exact h0 (by omega) _ _ _ (kx_two Gq F9) (N9 _ (.head _)).1 (N9 _ (.tail _ (.head _))).1
  · rw [read_char (by omega) rfl]
    (with_reducible rename GSub _ _ _ => Gq)
    (with_reducible rename Fr _ _ _ _ => Kf)
    (with_reducible rename News _ _ _ _ => Kn)
    clear Kf Kn
    (with_reducible rename Fr _ _ _ _ => F9)
    (with_reducible rename News _ _ _ _ => N9)
    exact h1' (by omega) _ _ _ _ (kx_two Gq F9) (N9 _ (.head _)).1 (N9 _ (.tail _ (.head _))).1
  · rw [read_char (by omega) (by omega)]
    (with_reducible rename GSub _ _ _ => Gq)
    (with_reducible rename Fr _ _ _ _ => Kf)
    (with_reducible rename News _ _ _ _ => Kn)
    clear Kf Kn
    (with_reducible rename Fr _ _ _ _ => F9)
    (with_reducible rename News _ _ _ _ => N9)
    have e9 : (x.length : Int) = ((p + 1 : Nat) : Int) := by omega
    rw [e9] at N9
    exact h1' (by omega) _ _ _ _ (kx_two Gq F9) (N9 _ (.head _)).1 (N9 _ (.tail _ (.head _))).1
end
section
theorem fr_kxL {g : Heap} {L : Addr} {m : Str → Option Value} {X : List Addr} {h h' : Heap} (F : Fr g L h m) (k : Kx X h h') (hg : ∀ b ∈ X, g.get? b = none) (hL : L ∉ X) : Fr g L h' m :=
  ⟨F.ns.at' fun o e => k _ o hL e, fun b o e => k b o (fun hb => by rw [hg b hb] at e; cases e) (F.keep b o e), F.above⟩
section
variable {w : World} {A : Around} {E : Value → Shared → Prop} {s : Shared} {g : Heap} {L : Addr} {m : Str → Option Value} {news : List (Addr × Obj)}
theorem read_K {sio dx : Addr} {k : Nat → Tok} {x : Str} {t tp u : Tok} {p : Nat} {gU : Obj → List (Addr × Obj)} {Q : Value → Shared → Prop} (hc : CxN w A s.heap 3 [(sio, instObj 635 dx), (dx, dictOf (sioEs w.params k (.str x t) (.int (p : Nat) tp)) 3)])
    (F : Fr g L s.heap m) (N : News g L s.heap news) (hs : (sio, instObj 635 dx) ∈ news) (U : UpdF dx (dictOf (sioEs w.params k (.str x t) (.int (p : Nat) tp)) 3) news gU) (hne : @Ne Nat sio dx) (hx : x.length ≤ 10000) (hp : p ≤ x.length)
    (h0 : x.length ≤ p → ∀ t' h' tk', Fr g L h' m → News g L h' news → Q (.str (Str.ofString "") t') { s with heap := h', toks := tk' })
    (h1 : p < x.length → ∀ t' tp' h' tk', Fr g L h' m → News g L h' (gU (dictOf (sioEs w.params k (.str x t) (.int ((p + 1 : Nat) : Int) tp')) 3)) → Q (.str (Str.mk #[x.cps.getD p 0]) t') { s with heap := h', toks := tk' }) :
    wpAny (model Mine.prog w) A (call (.ref 581) [.ref sio, .int 1 u]) Q E s := by
  obtain ⟨pre, post, rfl, hgU, p1, p2⟩ := U.split
  have zs := N _ hs
  have zd := N (dx, _) (List.mem_append_right _ (.head _))
  have fr : ∀ {h'}, Kx [sio, dx] s.heap h' → Fr g L h' m := fun k => fr_kxL F k (by intro b hb; simp at hb; rcases hb with rfl | rfl; exact zs.2.2; exact zd.2.2) (by intro hb; simp at hb; rcases hb with rfl | rfl; exact zs.2.1 rfl; exact zd.2.1 rfl)
  have up : ∀ {h'}, Kx [sio, dx] s.heap h' → h'.get? sio = some (instObj 635 dx) → ∀ q ∈ pre ++ (dx, dictOf (sioEs w.params k (.str x t) (.int (p : Nat) tp)) 3) :: post, q.1 ≠ dx → h'.get? q.1 = some q.2 ∧ q.1 ≠ L ∧ g.get? q.1 = none := by
    intro h' kk es q hq hqd
    have zq := N q hq
    refine ⟨?_, zq.2⟩
    by_cases e : q.1 = sio
    · have e2 := zs.1
      rw [← e, zq.1] at e2
      rw [e, Option.some.inj e2]
      exact es
    · exact kk _ _ (by simp [e, hqd]) zq.1
  refine read_spec hc hne hx hp (fun hz t' h' tk' kk es ed => h0 hz t' h' tk' (fr kk) ?_) (fun hz t' tp' h' tk' kk es ed => h1 hz t' tp' h' tk' (fr kk) ?_)
  · intro q hq
    by_cases e : q.1 = dx
    · have e2 := zd.1
      rw [show (dx, dictOf (sioEs w.params k (.str x t) (.int (p : Nat) tp)) 3).1 = dx from rfl, ← e, (N q hq).1] at e2
      refine ⟨?_, (N q hq).2⟩
      rw [e, Option.some.inj e2]
      exact ed
    · exact up kk es q hq e
  · rw [hgU]
    intro q hq
    rcases List.mem_append.mp hq with hq | hq
    · exact up kk es q (List.mem_append_left _ hq) (p1 q hq)
    · rcases List.mem_cons.mp hq with rfl | hq
      · exact ⟨ed, zd.2⟩
      · exact up kk es q (List.mem_append_right _ (.tail _ hq)) (p2 q hq)
end
theorem in_lit {w : World} {A : Around} {E : Value → Shared → Prop} {s : Shared} {x y : Str} {t u : Tok} {b : Bool} {Q : Value → Shared → Prop} (e : (!(Builtin.Str.occurrences x y 0 x.length 1).isEmpty) = b) (h : Q (.bool b) s) :
    wpAny (model Mine.prog w) A (compareOp .In (.str y u) (.str x t)) Q E s := P.in_str (by rw [e]; exact h)
theorem eq_lit {w : World} {A : Around} {E : Value → Shared → Prop} {s : Shared} {x y : Str} {t u : Tok} {b : Bool} {Q : Value → Shared → Prop} (e : (x == y) = b) (h : Q (.bool b) s) :
    wpAny (model Mine.prog w) A (compareOp .Eq (.str x t) (.str y u)) Q E s := eq_str (by rw [e]; exact h)
theorem truthy_lit {w : World} {A : Around} {E : Value → Shared → Prop} {s : Shared} {x : Str} {t : Tok} {b : Bool} {Q : Bool → Shared → Prop} (hz : x.length ≤ 100000) (e : ((x.length : Int) != 0) = b) (h : ∀ tk', Q b { s with toks := tk' }) :
    wpAny (model Mine.prog w) A (truthy (.str x t)) Q E s := PySem.P.truthy_str (by omega) (by rw [e]; exact h _)
theorem one_true (c : Nat) : (((Str.mk #[c]).length : Int) != 0) = true := rfl
/-- what read_token reads from the signs, in posix mode: the token, the rest, whether the end was met -/
noncomputable def rd : List Nat → Nat → List Nat → Option (List Nat × List Nat × Bool)
  | [], st, tok => if st = 97 then some (tok, [], true) else none
  | c :: cs, st, tok =>
    if c = 10 ∨ c = 92 then none
    else if st = 32 then (if c = 39 then rd cs 39 tok else none)
    else if st = 39 then (if c = 39 then rd cs 97 tok else rd cs 39 (tok ++ [c]))
    else if st = 34 then (if c = 34 then rd cs 97 tok else if c = 39 then rd cs 34 (tok ++ [c]) else none)
    else if st = 97 then (if c = 32 then some (tok, cs, false) else if c = 39 ∨ c = 34 then rd cs c tok else none)
    else none
theorem rd_nil {st : Nat} {tok T R : List Nat} {e : Bool} (h : rd [] st tok = some (T, R, e)) : st = 97 ∧ T = tok ∧ R = [] ∧ e = true := by
  unfold rd at h
  by_cases h1 : st = 97
  · rw [if_pos h1] at h
    cases h
    exact ⟨h1, rfl, rfl, rfl⟩
  · rw [if_neg h1] at h
    cases h
/-- the ways of one sign -/
theorem rd_cons {c : Nat} {cs : List Nat} {st : Nat} {tok T R : List Nat} {e : Bool} (h : rd (c :: cs) st tok = some (T, R, e)) :
    (st = 32 ∧ c = 39 ∧ rd cs 39 tok = some (T, R, e)) ∨ (st = 39 ∧ c = 39 ∧ rd cs 97 tok = some (T, R, e)) ∨ (st = 39 ∧ c ≠ 39 ∧ c ≠ 10 ∧ c ≠ 92 ∧ rd cs 39 (tok ++ [c]) = some (T, R, e)) ∨ (st = 34 ∧ c = 34 ∧ rd cs 97 tok = some (T, R, e)) ∨
    (st = 34 ∧ c = 39 ∧ rd cs 34 (tok ++ [c]) = some (T, R, e)) ∨ (st = 97 ∧ c = 32 ∧ T = tok ∧ R = cs ∧ e = false) ∨ (st = 97 ∧ c = 39 ∧ rd cs 39 tok = some (T, R, e)) ∨ (st = 97 ∧ c = 34 ∧ rd cs 34 tok = some (T, R, e)) := by
  unfold rd at h
  by_cases h0 : c = 10 ∨ c = 92
  · rw [if_pos h0] at h; cases h
  rw [if_neg h0] at h
  have h01 : c ≠ 10 ∧ c ≠ 92 := ⟨fun q => h0 (.inl q), fun q => h0 (.inr q)⟩
  by_cases h1 : st = 32
  · rw [if_pos h1] at h
    by_cases h2 : c = 39
    · rw [if_pos h2] at h; exact .inl ⟨h1, h2, h⟩
    · rw [if_neg h2] at h; cases h
  rw [if_neg h1] at h
  by_cases h3 : st = 39
  · rw [if_pos h3] at h
    by_cases h2 : c = 39
    · rw [if_pos h2] at h; exact .inr (.inl ⟨h3, h2, h⟩)
    · rw [if_neg h2] at h; exact .inr (.inr (.inl ⟨h3, h2, h01.1, h01.2, h⟩))
  rw [if_neg h3] at h
  by_cases h4 : st = 34
  · rw [if_pos h4] at h
    by_cases h2 : c = 34
    · rw [if_pos h2] at h; exact .inr (.inr (.inr (.inl ⟨h4, h2, h⟩)))
    · rw [if_neg h2] at h
      by_cases h5 : c = 39
      · rw [if_pos h5] at h; exact .inr (.inr (.inr (.inr (.inl ⟨h4, h5, h⟩))))
      · rw [if_neg h5] at h; cases h
  rw [if_neg h4] at h
  by_cases h6 : st = 97
  · rw [if_pos h6] at h
    by_cases h2 : c = 32
    · rw [if_pos h2] at h; cases h; exact .inr (.inr (.inr (.inr (.inr (.inl ⟨h6, h2, rfl, rfl, rfl⟩)))))
    · rw [if_neg h2] at h
      by_cases h5 : c = 39 ∨ c = 34
      · rw [if_pos h5] at h
        rcases h5 with rfl | rfl
        · exact .inr (.inr (.inr (.inr (.inr (.inr (.inl ⟨h6, rfl, h⟩))))))
        · exact .inr (.inr (.inr (.inr (.inr (.inr (.inr ⟨h6, rfl, h⟩))))))
      · rw [if_neg h5] at h; cases h
  · rw [if_neg h6] at h; cases h
theorem drop_char {x : Str} {p : Nat} (h : p < x.length) : x.cps.toList.drop p = x.cps.getD p 0 :: x.cps.toList.drop (p + 1) := by
  have h' : p < x.cps.toList.length := by rw [Array.length_toList]; exact h
  rw [List.drop_eq_getElem_cons h']
  congr 1
  have h2 : p < x.cps.size := h
  simp [Array.getD, h2]
structure RtSt where
  p : Nat
  tp : Tok
  st : Nat
  sc : Tok
  tok : List Nat
  tt : Tok
  q : Bool
  et : Tok
noncomputable abbrev rtLed (P : Params) (k v k2 : Nat → Tok) (lex d sio dx pb fs : Addr) (x : Str) (t : Tok) (c : RtSt) : List (Addr × Obj) :=
  [(lex, instObj 770 d), (d, dictOf (lexEs P k v sio pb fs (.str (Str.mk #[c.st]) c.sc) (.str (Str.mk c.tok.toArray) c.tt)) 19), (sio, instObj 635 dx), (dx, dictOf (sioEs P k2 (.str x t) (.int (c.p : Nat) c.tp)) 3)]
theorem rt_led {P : Params} {k v k2 : Nat → Tok} {lex d sio dx pb fs : Addr} {x : Str} {t : Tok} {g h : Heap} {L : Addr} {st : Nat} {tok : List Nat} {p : Nat} {sc tt tp : Tok}
    (N : News g L h [(lex, instObj 770 d), (d, dictOf (lexEs P k v sio pb fs (.str (Str.mk #[st]) sc) (.str (Str.mk tok.toArray) tt)) 19), (sio, instObj 635 dx), (dx, dictOf (sioEs P k2 (.str x t) (.int (p : Nat) tp)) 3)]) (es : Tok) (qq : Bool) :
    ∃ c : RtSt, c.p = p ∧ c.st = st ∧ c.tok = tok ∧ c.q = qq ∧ c.et = es ∧ News g L h (rtLed P k v k2 lex d sio dx pb fs x t c) := ⟨⟨p, tp, st, sc, tok, tt, qq, es⟩, rfl, rfl, rfl, rfl, rfl, N⟩
theorem CxN.kx {w : World} {A : Around} {h h' : Heap} {c : Nat} {news news' : List (Addr × Obj)} {X : List Addr} (x : CxN w A h c news) (k : Kx X h h') (hX : ∀ b ∈ X, ∃ o, (b, o) ∈ news) (hn : ∀ p ∈ news', h'.get? p.1 = some p.2 ∧ ∃ o, (p.1, o) ∈ news) :
    CxN w A h' c news' := by
  obtain ⟨dp, un, gd, cn, cs, L, a, ccd, cl, outer, A₀, base, h₀, m, mean, mg, mb, e, B, F, XX, T, hk, h1, h2, N⟩ := x
  refine ⟨dp, un, gd, cn, cs, L, a, ccd, cl, outer, A₀, base, h₀, m, mean, mg, mb, e, B, fr_kxL F k (fun b hb => ?_) (fun hb => ?_), XX, T, hk, h1, h2, fun p hp => ⟨(hn p hp).1, ?_⟩⟩
  · obtain ⟨o, ho⟩ := hX b hb; exact (N _ ho).2.2
  · obtain ⟨o, ho⟩ := hX L hb; exact (N _ ho).2.1 rfl
  · obtain ⟨o, ho⟩ := (hn p hp).2; exact (N _ ho).2
theorem kx_four {h g h' : Heap} {L P P2 P3 P4 : Addr} {m : Str → Option Value} {o o2 o3 o4 : Obj} (G : GSub h g (List.map (fun x : Addr × Obj => x.1) [(P, o), (P2, o2), (P3, o3), (P4, o4)])) (F : Fr g L h' m) : Kx [P, P2, P3, P4] h h' := fun b o' hb e => F.keep b o' (G b o' e (by simpa using hb))
noncomputable abbrev rtRet (P : Params) (k v k2 : Nat → Tok) (lex d sio dx pb fs : Addr) (x : Str) (t : Tok) (st : Value) (tok : Str) (tt : Tok) (p : Nat) (tp : Tok) : List (Addr × Obj) :=
  [(lex, instObj 770 d), (d, dictOf (lexEs P k v sio pb fs st (.str tok tt)) 19), (sio, instObj 635 dx), (dx, dictOf (sioEs P k2 (.str x t) (.int (p : Nat) tp)) 3)]
noncomputable def StEnd : Bool → Value → Prop
  | true, v => v = .none
  | false, v => ∃ t, v = .str (Str.ofString " ") t
end
section
@[elab_as_elim] theorem rd_split {c : Nat} {cs tok T R : List Nat} {st : Nat} {e : Bool} {P : Nat → Nat → Prop} (h : rd (c :: cs) st tok = some (T, R, e))
    (a1 : rd cs 39 tok = some (T, R, e) → P 32 39)
    (a2 : ∀ st, (st = 39 ∨ st = 34) → ∀ c, c ≠ 92 → (c = st → rd cs 97 tok = some (T, R, e)) → (c ≠ st → rd cs st (tok ++ [c]) = some (T, R, e)) → P st c)
    (a3 : ∀ c, (c = 32 → T = tok ∧ R = cs ∧ e = false) → (c ≠ 32 → (c = 39 ∨ c = 34) ∧ rd cs c tok = some (T, R, e)) → P 97 c) : P st c := by
  rcases rd_cons h with ⟨rfl, rfl, hr⟩ | ⟨rfl, rfl, hr⟩ | ⟨rfl, n1, n2, n3, hr⟩ | ⟨rfl, rfl, hr⟩ | ⟨rfl, rfl, hr⟩ | ⟨rfl, rfl, r1, r2, r3⟩ | ⟨rfl, rfl, hr⟩ | ⟨rfl, rfl, hr⟩
  · exact a1 hr
  · exact a2 39 (.inl rfl) 39 (by decide) (fun _ => hr) (fun q => absurd rfl q)
  · exact a2 39 (.inl rfl) c n3 (fun q => absurd q n1) (fun _ => hr)
  · exact a2 34 (.inr rfl) 34 (by decide) (fun _ => hr) (fun q => absurd rfl q)
  · exact a2 34 (.inr rfl) 39 (by decide) (fun q => absurd q (by decide)) (fun _ => hr)
  · exact a3 32 (fun _ => ⟨r1, r2, r3⟩) (fun q => absurd rfl q)
  · exact a3 39 (fun q => absurd q (by decide)) (fun _ => ⟨.inl rfl, hr⟩)
  · exact a3 34 (fun q => absurd q (by decide)) (fun _ => ⟨.inr rfl, hr⟩)
theorem q_sp {st : Nat} (h : st = 39 ∨ st = 34) : (Str.mk #[st] == Str.ofString " ") = false := by rcases h with rfl | rfl <;> decide +kernel
theorem q_in {X : Str} {b : Bool} {st : Nat} (h1 : (!(Builtin.Str.occurrences X (Str.mk #[39]) 0 X.length 1).isEmpty) = b) (h2 : (!(Builtin.Str.occurrences X (Str.mk #[34]) 0 X.length 1).isEmpty) = b) (h : st = 39 ∨ st = 34) : (!(Builtin.Str.occurrences X (Str.mk #[st]) 0 X.length 1).isEmpty) = b := by rcases h with rfl | rfl <;> assumption
theorem q_esc {c : Nat} (h : c ≠ 92) : (!(Builtin.Str.occurrences (Str.ofString "\\") (Str.mk #[c]) 0 (Str.ofString "\\").length 1).isEmpty) = false := by
  rw [show Str.ofString "\\" = Str.mk #[92] from by decide +kernel]
  have e : Builtin.Str.subAt (Str.mk #[92]) (Str.mk #[c]) 0 = false := by
    simp [Builtin.Str.subAt, Str.length]
    first | exact h | exact fun q => h q.symm | omega
  have e2 : Builtin.Str.occurrences (Str.mk #[92]) (Str.mk #[c]) 0 (Str.mk #[92]).length 1 = [] := by
    unfold Builtin.Str.occurrences
    simp [List.range', Str.length, e]
  rw [e2]; rfl
theorem q_eq {c st : Nat} (h : c = st) : (Str.mk #[c] == Str.mk #[st]) = true := by subst h; exact beq_self_eq_true _
theorem q_ne {c st : Nat} (h : c ≠ st) : (Str.mk #[c] == Str.mk #[st]) = false := by rw [beq_eq_false_iff_ne]; intro q; cases q; exact h rfl
theorem q_32 {st : Nat} (h : st = 39 ∨ st = 34) : st ≠ 32 := by rcases h with rfl | rfl <;> decide
theorem rd_nl {c : Nat} {cs tok T R : List Nat} {st : Nat} {e : Bool} (h : rd (c :: cs) st tok = some (T, R, e)) : (Str.mk #[c] == Str.ofString "\n") = false := by
  rw [show Str.ofString "\n" = Str.mk #[10] from by decide +kernel, beq_eq_false_iff_ne]; intro q; cases q
  rcases rd_cons h with ⟨_, e, _⟩ | ⟨_, e, _⟩ | ⟨_, _, n2, _, _⟩ | ⟨_, e, _⟩ | ⟨_, e, _⟩ | ⟨_, e, _⟩ | ⟨_, e, _⟩ | ⟨_, e, _⟩
  · cases e
  · cases e
  · exact n2 rfl
  all_goals cases e
theorem tok_app (tok : List Nat) (c : Nat) : Str.mk tok.toArray ++ Str.mk #[c] = Str.mk (tok ++ [c]).toArray := by rw [← List.append_toArray]; rfl
theorem rt_end {P : Params} {k v k2 : Nat → Tok} {lex d sio dx pb fs L : Addr} {x zs zt : Str} {t sc tt tp et : Tok} {g h : Heap} {s : Shared} {m m' : Str → Option Value} {st p tk : Nat} {tok Tk Rs : List Nat} {q en : Bool} {c : RtSt}
    (F : Fr g L h m') (N : News g L h [(lex, instObj 770 d), (d, dictOf (lexEs P k v sio pb fs (.str zs sc) (.str zt tt)) 19), (sio, instObj 635 dx), (dx, dictOf (sioEs P k2 (.str x t) (.int ((p + 1 : Nat) : Int) tp)) 3)])
    (hs : zs = Str.mk #[st]) (ht : zt = Str.mk tok.toArray) (he : m' (Str.ofString "escapedstate") = some (.str (Str.ofString " ") et)) (hq : m' (Str.ofString "quoted") = some (.bool q))
    (hm : ∀ z, z ≠ Str.ofString "escapedstate" → z ≠ Str.ofString "quoted" → z ≠ Str.ofString "nextchar" → [Str.ofString "nextchar"].contains z = false → m' z = m z)
    (hp : p < x.length) (hl : tok.length ≤ p + 1) (hr : rd (x.cps.toList.drop (p + 1)) st tok = some (Tk, Rs, en)) (h3 : st = 97 → q = true) (h4 : st = 32 → tok = []) (hc : c.p = p) :
    KswEnd g L s (rtLed P k v k2 lex d sio dx pb fs x t) (fun c => [(Str.ofString "escapedstate", .str (Str.ofString " ") c.et), (Str.ofString "quoted", .bool c.q)]) (fun _ => True) [Str.ofString "nextchar"] m
      (fun c => c.p ≤ x.length ∧ c.tok.length ≤ c.p ∧ rd (x.cps.toList.drop c.p) c.st c.tok = some (Tk, Rs, en) ∧ (c.st = 97 → c.q = true) ∧ (c.st = 32 → c.tok = [])) (fun c => x.length - c.p) c { s with heap := h, toks := tk } := by
  subst hs ht
  refine ksw_end ⟨p + 1, tp, st, sc, tok, tt, q, et⟩ F N (fun p hp => hp) trivial ?eK ?eR ⟨hp, hl, hr, h3, h4⟩ ?eM
  case eK =>
    intro p hp
    simp only [List.mem_cons, List.not_mem_nil, or_false] at hp
    rcases hp with rfl | rfl
    · exact he
    · exact hq
  case eR =>
    intro z hz3 hz4
    exact hm z (hz3 (Str.ofString "escapedstate", _) (.head _)) (hz3 (Str.ofString "quoted", _) (.tail _ (.head _))) (by rintro rfl; revert hz4; decide +kernel) hz4
  case eM =>
    show x.length - (p + 1) < x.length - c.p
    rw [hc]; omega
theorem rtok_spec {w : World} {A : Around} {s : Shared} {Q E : Value → Shared → Prop} {lex d sio dx pb fs : Addr} {k v k2 : Nat → Tok} {x : Str} {t tp tc tt : Tok} {p : Nat} {Tk Rs : List Nat} {en : Bool}
    (hc : CxN w A s.heap 5 [(lex, instObj 770 d), (d, dictOf (lexEs w.params k v sio pb fs (.str (Str.mk #[32]) tc) (.str (Str.mk #[]) tt)) 19), (sio, instObj 635 dx), (dx, dictOf (sioEs w.params k2 (.str x t) (.int (p : Nat) tp)) 3)])
    (hne : @Ne Nat lex d ∧ @Ne Nat lex sio ∧ @Ne Nat lex dx ∧ @Ne Nat d sio ∧ @Ne Nat d dx ∧ @Ne Nat sio dx) (hx : x.length ≤ 10000) (hp : p ≤ x.length) (hrd : rd (x.cps.toList.drop p) 32 [] = some (Tk, Rs, en))
    (hQ : ∀ p' tp' st' tt' t2 h' tk', p' ≤ x.length → x.cps.toList.drop p' = Rs → Kx [lex, d, sio, dx] s.heap h' → StEnd en st' → (∀ q ∈ rtRet w.params k v k2 lex d sio dx pb fs x t st' (Str.ofString "") tt' p' tp', h'.get? q.1 = some q.2) → Q (.str (Str.mk Tk.toArray) t2) { s with heap := h', toks := tk' }) :
    wpAny (model prog w) A (call (.ref 738) [.ref lex]) Q E s := by
  obtain ⟨dp, un, gd, cn, cs, L, a, ccd, cl, outer, A₀, base, h₀, m, mean, mg, mb, rfl, B, F, X, T, hk, h1, h2, N⟩ := hc
  refine wpAny_call ?_
  obtain ⟨q1, q2, q3, q4, q5, q6⟩ := hne
  k_dflt (refine' code_defG ?k1 ?k2 ?k3 ?k4 ?k5 ?kA ?kF ?kK ?k6 ?k7 ?k8 ?k9 ?kB ?_ ?c2 ?c3 ?c4 ?c5; (case kA => exact rfl); (case kF => exact rfl); (case kK => assumption); (case k1 => k_asm); (case k2 => k_asm); (case k3 => k_asm); (case k4 => k_asm); (case k5 => k_asm); (case k6 => k_is); (case k7 => k_is); (case k8 => exact room (by assumption)); (case k9 => first | exact BindsTo.of_eq rfl | exact binds_K (by k_in) rfl (by k_is) rfl rfl rfl); (case c5 => decide); (case kB => exact locs rfl); (case c2 => exact rfl); (case c3 => exact rfl); (case c4 => exact rfl); k_whole; intro _ _ _ _ _ _ _ _ _ _; (try dsimp only))
  k_fold
  (repeat' ((fail_if_success (with_reducible show wpAny _ _ (exec (PySem.Stmt.While _ _ _ _) _) _ _ _)); (first | (k_unfold; (try dsimp only)) | ((first | ((with_reducible show wpAny _ _ (truthy (Value.str _ _)) _ _ _); k_dflt (first | (refine truthy_lit (b := true) (by show 1 ≤ 100000; omega) (one_true _) (fun _ => ?_)) | (refine truthy_lit (b := false) (by decide +kernel) (by decide +kernel) (fun _ => ?_)))) | ((with_reducible show wpAny _ _ (compareOp CmpOp.Eq (Value.str _ _) (Value.str _ _)) _ _ _); first | (refine eq_lit (b := true) (by first | assumption | decide +kernel) ?_) | (refine eq_lit (b := false) (by first | assumption | decide +kernel) ?_)) | ((with_reducible show wpAny _ _ (compareOp CmpOp.In (Value.str _ _) (Value.str _ _)) _ _ _); first | (refine in_lit (b := true) (by first | assumption | decide +kernel) ?_) | (refine in_lit (b := false) (by first | assumption | decide +kernel) ?_)) | fail "none")) | walk1 | dsimp only)))
  (with_reducible rename Fr _ _ _ _ => F1)
  (with_reducible rename News _ _ _ _ => N1)
  dsimp only at F1
  rename_i g L' h0 FG BB XX TT GS h3 h4
  refine ksw_while (σ := RtSt) (rtLed w.params k v k2 lex d sio dx pb fs x t)
    (fun c => [(Str.ofString "escapedstate", .str (Str.ofString " ") c.et), (Str.ofString "quoted", .bool c.q)]) (fun _ => True) [Str.ofString "nextchar"]
    (fun c => c.p ≤ x.length ∧ c.tok.length ≤ c.p ∧ rd (x.cps.toList.drop c.p) c.st c.tok = some (Tk, Rs, en) ∧ (c.st = 97 → c.q = true) ∧ (c.st = 32 → c.tok = [])) (fun c => x.length - c.p) ⟨p, tp, 32, tc, [], tt, false, tk + 1⟩ F1 N1 trivial ?hps ⟨hp, Nat.zero_le _, hrd, (fun h => by cases h), fun _ => rfl⟩ ?turn
  case hps =>
    intro p hp
    simp only [List.mem_cons, List.not_mem_nil, or_false] at hp
    rcases hp with rfl | rfl
    · exact rfl
    · exact rfl
  rintro ⟨p, tp, st, sc, tok, tt2, q, et⟩ u h5 tk5 - ⟨hp, htl, hrd, hq, ht0⟩ F2 N2
  dsimp only at hp htl hrd hq ht0
  have F3 : Fr g L' h5 _ := F2
  have N3 : News g L' h5 [(lex, instObj 770 d), (d, dictOf (lexEs w.params k v sio pb fs (.str (Str.mk #[st]) sc) (.str (Str.mk tok.toArray) tt2)) 19), (sio, instObj 635 dx), (dx, dictOf (sioEs w.params k2 (.str x t) (.int (p : Nat) tp)) 3)] := N2
  clear F2 N2 F1 N1
  (repeat' ((fail_if_success (with_reducible show wpAny _ _ (call (Value.ref 581) _) _ _ _)); (first | (k_unfold; (try dsimp only)) | ((first | ((with_reducible show wpAny _ _ (truthy (Value.str _ _)) _ _ _); k_dflt (first | (refine truthy_lit (b := true) (by show 1 ≤ 100000; omega) (one_true _) (fun _ => ?_)) | (refine truthy_lit (b := false) (by decide +kernel) (by decide +kernel) (fun _ => ?_)))) | ((with_reducible show wpAny _ _ (compareOp CmpOp.Eq (Value.str _ _) (Value.str _ _)) _ _ _); first | (refine eq_lit (b := true) (by first | assumption | decide +kernel) ?_) | (refine eq_lit (b := false) (by first | assumption | decide +kernel) ?_)) | ((with_reducible show wpAny _ _ (compareOp CmpOp.In (Value.str _ _) (Value.str _ _)) _ _ _); first | (refine in_lit (b := true) (by first | assumption | decide +kernel) ?_) | (refine in_lit (b := false) (by first | assumption | decide +kernel) ?_)) | fail "none")) | walk1 | dsimp only)))
  (with_reducible rename Fr _ _ _ _ => Fq)
  (with_reducible rename News _ _ _ _ => Nq)
  refine' read_K (x := x) (p := p) (k := k2) (t := t) (tp := tp) ?hc Fq Nq (by k_mem : (sio, instObj 635 dx) ∈ _) ?ru q6 hx hp ?_ ?_
  case hc => exact cxN_deeper (by assumption) Fq (by assumption) (by assumption) (by rfl) (by omega) (by omega) (news_sub Nq (by kd_inAll))
  case ru => k_updF
  · intro hlen t9 h9 tk9 F9 N9
    clear Fq Nq F3 N3
    rw [List.drop_eq_nil_of_le (by rw [Array.length_toList]; exact hlen)] at hrd
    obtain ⟨rfl, rfl, rfl, rfl⟩ := rd_nil hrd
    · obtain rfl := hq rfl
      (repeat' (first | (k_unfold; (try dsimp only)) | (k_end; wrow_close) | ((first | ((with_reducible show wpAny _ _ (truthy (Value.str _ _)) _ _ _); k_dflt (first | (refine truthy_lit (b := true) (by show 1 ≤ 100000; omega) (one_true _) (fun _ => ?_)) | (refine truthy_lit (b := false) (by decide +kernel) (by decide +kernel) (fun _ => ?_)))) | ((with_reducible show wpAny _ _ (compareOp CmpOp.Eq (Value.str _ _) (Value.str _ _)) _ _ _); first | (refine eq_lit (b := true) (by first | assumption | decide +kernel) ?_) | (refine eq_lit (b := false) (by first | assumption | decide +kernel) ?_)) | ((with_reducible show wpAny _ _ (compareOp CmpOp.In (Value.str _ _) (Value.str _ _)) _ _ _); first | (refine in_lit (b := true) (by first | assumption | decide +kernel) ?_) | (refine in_lit (b := false) (by first | assumption | decide +kernel) ?_)) | fail "none")) | walk1 | dsimp only | (leave1; walk_say "STEP leave1"; try dsimp only) | fail "no step"))
      all_goals (
        (with_reducible rename GSub _ _ _ => Gq)
        (with_reducible rename Fr _ _ _ _ => Kf)
        (with_reducible rename News _ _ _ _ => Kn)
        clear Kf Kn
        (with_reducible rename Fr _ _ _ _ => F8)
        (with_reducible rename News _ _ _ _ => N8)
        first | exact hQ _ _ _ _ _ _ _ hp (List.drop_eq_nil_of_le (by rw [Array.length_toList]; exact hlen)) (kx_four Gq F8) rfl (fun q hq => (N8 q hq).1) | exact hQ _ _ _ _ _ _ _ hp (List.drop_eq_nil_of_le (by rw [Array.length_toList]; exact hlen)) (kx_four Gq F8) rfl (fun q hq => (N8 q (.tail _ hq)).1)
      )
  · intro hlen t9 tp9 h9 tk9 F9 N9
    clear Fq Nq F3 N3
    rw [drop_char hlen] at hrd
    generalize x.cps.getD p 0 = c at hrd
    have e1 := rd_nl hrd
    (repeat' ((fail_if_success (with_reducible show wpAny _ _ (compareOp CmpOp.Eq (Value.str _ _) (Value.str _ _)) _ _ _)); (first | (k_unfold; (try dsimp only)) | ((with_reducible refine wpAny_execs_cons ?_); k_fold) | ((first | ((with_reducible show wpAny _ _ (truthy (Value.str _ _)) _ _ _); k_dflt (first | (refine truthy_lit (b := true) (by show 1 ≤ 100000; omega) (one_true _) (fun _ => ?_)) | (refine truthy_lit (b := false) (by decide +kernel) (by decide +kernel) (fun _ => ?_)))) | ((with_reducible show wpAny _ _ (compareOp CmpOp.Eq (Value.str _ _) (Value.str _ _)) _ _ _); first | (refine eq_lit (b := true) (by first | assumption | decide +kernel) ?_) | (refine eq_lit (b := false) (by first | assumption | decide +kernel) ?_)) | ((with_reducible show wpAny _ _ (compareOp CmpOp.In (Value.str _ _) (Value.str _ _)) _ _ _); first | (refine in_lit (b := true) (by first | assumption | decide +kernel) ?_) | (refine in_lit (b := false) (by first | assumption | decide +kernel) ?_)) | fail "none")) | walk1 | dsimp only)))
    first | ((first | ((with_reducible show wpAny _ _ (truthy (Value.str _ _)) _ _ _); k_dflt (first | (refine truthy_lit (b := true) (by show 1 ≤ 100000; omega) (one_true _) (fun _ => ?_)) | (refine truthy_lit (b := false) (by decide +kernel) (by decide +kernel) (fun _ => ?_)))) | ((with_reducible show wpAny _ _ (compareOp CmpOp.Eq (Value.str _ _) (Value.str _ _)) _ _ _); first | (refine eq_lit (b := true) (by first | assumption | decide +kernel) ?_) | (refine eq_lit (b := false) (by first | assumption | decide +kernel) ?_)) | ((with_reducible show wpAny _ _ (compareOp CmpOp.In (Value.str _ _) (Value.str _ _)) _ _ _); first | (refine in_lit (b := true) (by first | assumption | decide +kernel) ?_) | (refine in_lit (b := false) (by first | assumption | decide +kernel) ?_)) | fail "none")) | walk1
    (repeat' ((fail_if_success (with_reducible show wpAny _ _ (compareOp CmpOp.Eq (Value.str _ _) (Value.str _ _)) _ _ _)); (first | (k_unfold; (try dsimp only)) | ((with_reducible refine wpAny_execs_cons ?_); k_fold) | ((first | ((with_reducible show wpAny _ _ (truthy (Value.str _ _)) _ _ _); k_dflt (first | (refine truthy_lit (b := true) (by show 1 ≤ 100000; omega) (one_true _) (fun _ => ?_)) | (refine truthy_lit (b := false) (by decide +kernel) (by decide +kernel) (fun _ => ?_)))) | ((with_reducible show wpAny _ _ (compareOp CmpOp.Eq (Value.str _ _) (Value.str _ _)) _ _ _); first | (refine eq_lit (b := true) (by first | assumption | decide +kernel) ?_) | (refine eq_lit (b := false) (by first | assumption | decide +kernel) ?_)) | ((with_reducible show wpAny _ _ (compareOp CmpOp.In (Value.str _ _) (Value.str _ _)) _ _ _); first | (refine in_lit (b := true) (by first | assumption | decide +kernel) ?_) | (refine in_lit (b := false) (by first | assumption | decide +kernel) ?_)) | fail "none")) | walk1 | dsimp only)))
    (with_reducible rename Fr _ _ _ _ => F9)
    (with_reducible rename News _ _ _ _ => N9)
    clear e1
    revert hq ht0 F9 N9
    refine rd_split hrd (fun hr => ?_) (fun st9 hst c9 h92 hr1 hr2 => ?_) (fun c9 hsp hqt => ?_) <;> intro hq ht0 F9 N9
    · k_unmd
      k_fold
      (repeat' (first | (k_unfold; (try dsimp only)) | (k_end; wrow_close) | ((with_reducible refine wpAny_execs_cons ?_); k_fold) | ((first | ((with_reducible show wpAny _ _ (truthy (Value.str _ _)) _ _ _); k_dflt (first | (refine truthy_lit (b := true) (by show 1 ≤ 100000; omega) (one_true _) (fun _ => ?_)) | (refine truthy_lit (b := false) (by decide +kernel) (by decide +kernel) (fun _ => ?_)))) | ((with_reducible show wpAny _ _ (compareOp CmpOp.Eq (Value.str _ _) (Value.str _ _)) _ _ _); first | (refine eq_lit (b := true) (by first | assumption | decide +kernel) ?_) | (refine eq_lit (b := false) (by first | assumption | decide +kernel) ?_)) | ((with_reducible show wpAny _ _ (compareOp CmpOp.In (Value.str _ _) (Value.str _ _)) _ _ _); first | (refine in_lit (b := true) (by first | assumption | decide +kernel) ?_) | (refine in_lit (b := false) (by first | assumption | decide +kernel) ?_)) | fail "none")) | walk1 | dsimp only | (leave1; walk_say "STEP leave1"; try dsimp only) | fail "no step"))
      ((with_reducible rename Fr _ _ _ _ => F9); (with_reducible rename News _ _ _ _ => N9); refine' rt_end F9 ?eN ?eS ?eT rfl rfl (fun z z1 z2 z3 z4 => ?eR) hlen ?eL hr ?e3 ?e4 rfl; (case eN => first | exact N9 | exact fun p hp => N9 p (.tail _ hp)); (case eS => first | rfl | decide +kernel); (case eT => first | rfl | exact tok_app _ _); (case eR => simp only [kstB, if_neg z1, if_neg z2, if_neg z3, z4, Bool.false_eq_true, if_false]); (case eL => first | exact Nat.le_succ_of_le htl | (rw [List.length_append]; exact Nat.succ_le_succ htl)); (case e3 => intro hh; first | rfl | (cases hh)); (case e4 => intro hh; first | rfl | (cases hh)))
    · have f1 := q_sp hst
      k_unmd
      k_fold
      first | ((first | ((with_reducible show wpAny _ _ (truthy (Value.str _ _)) _ _ _); k_dflt (first | (refine truthy_lit (b := true) (by show 1 ≤ 100000; omega) (one_true _) (fun _ => ?_)) | (refine truthy_lit (b := false) (by decide +kernel) (by decide +kernel) (fun _ => ?_)))) | ((with_reducible show wpAny _ _ (compareOp CmpOp.Eq (Value.str _ _) (Value.str _ _)) _ _ _); first | (refine eq_lit (b := true) (by first | assumption | decide +kernel) ?_) | (refine eq_lit (b := false) (by first | assumption | decide +kernel) ?_)) | ((with_reducible show wpAny _ _ (compareOp CmpOp.In (Value.str _ _) (Value.str _ _)) _ _ _); first | (refine in_lit (b := true) (by first | assumption | decide +kernel) ?_) | (refine in_lit (b := false) (by first | assumption | decide +kernel) ?_)) | fail "none")) | walk1
      (repeat' ((fail_if_success (with_reducible show wpAny _ _ (compareOp CmpOp.In (Value.str _ _) (Value.str _ _)) _ _ _)); (first | (k_unfold; (try dsimp only)) | ((with_reducible refine wpAny_execs_cons ?_); k_fold) | ((first | ((with_reducible show wpAny _ _ (truthy (Value.str _ _)) _ _ _); k_dflt (first | (refine truthy_lit (b := true) (by show 1 ≤ 100000; omega) (one_true _) (fun _ => ?_)) | (refine truthy_lit (b := false) (by decide +kernel) (by decide +kernel) (fun _ => ?_)))) | ((with_reducible show wpAny _ _ (compareOp CmpOp.Eq (Value.str _ _) (Value.str _ _)) _ _ _); first | (refine eq_lit (b := true) (by first | assumption | decide +kernel) ?_) | (refine eq_lit (b := false) (by first | assumption | decide +kernel) ?_)) | ((with_reducible show wpAny _ _ (compareOp CmpOp.In (Value.str _ _) (Value.str _ _)) _ _ _); first | (refine in_lit (b := true) (by first | assumption | decide +kernel) ?_) | (refine in_lit (b := false) (by first | assumption | decide +kernel) ?_)) | fail "none")) | walk1 | dsimp only)))
      refine in_lit (b := true) (q_in (by decide +kernel) (by decide +kernel) hst) ?_
      (repeat' ((fail_if_success (with_reducible show wpAny _ _ (compareOp CmpOp.Eq (Value.str _ _) (Value.str _ _)) _ _ _)); (first | (k_unfold; (try dsimp only)) | ((with_reducible refine wpAny_execs_cons ?_); k_fold) | ((first | ((with_reducible show wpAny _ _ (truthy (Value.str _ _)) _ _ _); k_dflt (first | (refine truthy_lit (b := true) (by show 1 ≤ 100000; omega) (one_true _) (fun _ => ?_)) | (refine truthy_lit (b := false) (by decide +kernel) (by decide +kernel) (fun _ => ?_)))) | ((with_reducible show wpAny _ _ (compareOp CmpOp.Eq (Value.str _ _) (Value.str _ _)) _ _ _); first | (refine eq_lit (b := true) (by first | assumption | decide +kernel) ?_) | (refine eq_lit (b := false) (by first | assumption | decide +kernel) ?_)) | ((with_reducible show wpAny _ _ (compareOp CmpOp.In (Value.str _ _) (Value.str _ _)) _ _ _); first | (refine in_lit (b := true) (by first | assumption | decide +kernel) ?_) | (refine in_lit (b := false) (by first | assumption | decide +kernel) ?_)) | fail "none")) | walk1 | dsimp only)))
      clear f1
      by_cases hcs : c9 = st9
      · have f2 := q_eq hcs
        have hr := hr1 hcs
        (repeat' (first | (k_unfold; (try dsimp only)) | (k_end; wrow_close) | ((with_reducible refine wpAny_execs_cons ?_); k_fold) | ((first | ((with_reducible show wpAny _ _ (truthy (Value.str _ _)) _ _ _); k_dflt (first | (refine truthy_lit (b := true) (by show 1 ≤ 100000; omega) (one_true _) (fun _ => ?_)) | (refine truthy_lit (b := false) (by decide +kernel) (by decide +kernel) (fun _ => ?_)))) | ((with_reducible show wpAny _ _ (compareOp CmpOp.Eq (Value.str _ _) (Value.str _ _)) _ _ _); first | (refine eq_lit (b := true) (by first | assumption | decide +kernel) ?_) | (refine eq_lit (b := false) (by first | assumption | decide +kernel) ?_)) | ((with_reducible show wpAny _ _ (compareOp CmpOp.In (Value.str _ _) (Value.str _ _)) _ _ _); first | (refine in_lit (b := true) (by first | assumption | decide +kernel) ?_) | (refine in_lit (b := false) (by first | assumption | decide +kernel) ?_)) | fail "none")) | walk1 | dsimp only | (leave1; walk_say "STEP leave1"; try dsimp only) | fail "no step"))
        all_goals ((with_reducible rename Fr _ _ _ _ => F9); (with_reducible rename News _ _ _ _ => N9); refine' rt_end F9 ?eN ?eS ?eT rfl rfl (fun z z1 z2 z3 z4 => ?eR) hlen ?eL hr ?e3 ?e4 rfl; (case eN => first | exact N9 | exact fun p hp => N9 p (.tail _ hp)); (case eS => first | rfl | decide +kernel); (case eT => first | rfl | exact tok_app _ _); (case eR => simp only [kstB, if_neg z1, if_neg z2, if_neg z3, z4, Bool.false_eq_true, if_false]); (case eL => first | exact Nat.le_succ_of_le htl | (rw [List.length_append]; exact Nat.succ_le_succ htl)); (case e3 => intro hh; first | rfl | (cases hh)); (case e4 => intro hh; first | rfl | (cases hh)))
      · have f2 := q_ne hcs
        have f3 := q_esc h92
        have hr := hr2 hcs
        (repeat' (first | (k_unfold; (try dsimp only)) | (k_end; wrow_close) | ((with_reducible refine wpAny_execs_cons ?_); k_fold) | ((first | ((with_reducible show wpAny _ _ (truthy (Value.str _ _)) _ _ _); k_dflt (first | (refine truthy_lit (b := true) (by show 1 ≤ 100000; omega) (one_true _) (fun _ => ?_)) | (refine truthy_lit (b := false) (by decide +kernel) (by decide +kernel) (fun _ => ?_)))) | ((with_reducible show wpAny _ _ (compareOp CmpOp.Eq (Value.str _ _) (Value.str _ _)) _ _ _); first | (refine eq_lit (b := true) (by first | assumption | decide +kernel) ?_) | (refine eq_lit (b := false) (by first | assumption | decide +kernel) ?_)) | ((with_reducible show wpAny _ _ (compareOp CmpOp.In (Value.str _ _) (Value.str _ _)) _ _ _); first | (refine in_lit (b := true) (by first | assumption | decide +kernel) ?_) | (refine in_lit (b := false) (by first | assumption | decide +kernel) ?_)) | fail "none")) | walk1 | dsimp only | (leave1; walk_say "STEP leave1"; try dsimp only) | fail "no step"))
        all_goals ((with_reducible rename Fr _ _ _ _ => F9); (with_reducible rename News _ _ _ _ => N9); refine' rt_end F9 ?eN ?eS ?eT rfl rfl (fun z z1 z2 z3 z4 => ?eR) hlen ?eL hr ?e3 ?e4 rfl; (case eN => first | exact N9 | exact fun p hp => N9 p (.tail _ hp)); (case eS => first | rfl | decide +kernel); (case eT => first | rfl | exact tok_app _ _); (case eR => simp only [kstB, if_neg z1, if_neg z2, if_neg z3, z4, Bool.false_eq_true, if_false]); (case eL => first | exact Nat.le_succ_of_le htl | (rw [List.length_append]; exact Nat.succ_le_succ htl)); (case e3 => intro hh; first | rfl | (cases hh)); (case e4 => intro hh; exact absurd hh (q_32 hst)))
    · have hq1 := hq rfl
      subst hq1
      k_unmd
      k_fold
      first | ((first | ((with_reducible show wpAny _ _ (truthy (Value.str _ _)) _ _ _); k_dflt (first | (refine truthy_lit (b := true) (by show 1 ≤ 100000; omega) (one_true _) (fun _ => ?_)) | (refine truthy_lit (b := false) (by decide +kernel) (by decide +kernel) (fun _ => ?_)))) | ((with_reducible show wpAny _ _ (compareOp CmpOp.Eq (Value.str _ _) (Value.str _ _)) _ _ _); first | (refine eq_lit (b := true) (by first | assumption | decide +kernel) ?_) | (refine eq_lit (b := false) (by first | assumption | decide +kernel) ?_)) | ((with_reducible show wpAny _ _ (compareOp CmpOp.In (Value.str _ _) (Value.str _ _)) _ _ _); first | (refine in_lit (b := true) (by first | assumption | decide +kernel) ?_) | (refine in_lit (b := false) (by first | assumption | decide +kernel) ?_)) | fail "none")) | walk1
      (repeat' ((fail_if_success (with_reducible show wpAny _ _ (compareOp CmpOp.In (Value.str _ _) (Value.str _ _)) _ _ _)); (first | (k_unfold; (try dsimp only)) | ((with_reducible refine wpAny_execs_cons ?_); k_fold) | ((first | ((with_reducible show wpAny _ _ (truthy (Value.str _ _)) _ _ _); k_dflt (first | (refine truthy_lit (b := true) (by show 1 ≤ 100000; omega) (one_true _) (fun _ => ?_)) | (refine truthy_lit (b := false) (by decide +kernel) (by decide +kernel) (fun _ => ?_)))) | ((with_reducible show wpAny _ _ (compareOp CmpOp.Eq (Value.str _ _) (Value.str _ _)) _ _ _); first | (refine eq_lit (b := true) (by first | assumption | decide +kernel) ?_) | (refine eq_lit (b := false) (by first | assumption | decide +kernel) ?_)) | ((with_reducible show wpAny _ _ (compareOp CmpOp.In (Value.str _ _) (Value.str _ _)) _ _ _); first | (refine in_lit (b := true) (by first | assumption | decide +kernel) ?_) | (refine in_lit (b := false) (by first | assumption | decide +kernel) ?_)) | fail "none")) | walk1 | dsimp only)))
      first | ((first | ((with_reducible show wpAny _ _ (truthy (Value.str _ _)) _ _ _); k_dflt (first | (refine truthy_lit (b := true) (by show 1 ≤ 100000; omega) (one_true _) (fun _ => ?_)) | (refine truthy_lit (b := false) (by decide +kernel) (by decide +kernel) (fun _ => ?_)))) | ((with_reducible show wpAny _ _ (compareOp CmpOp.Eq (Value.str _ _) (Value.str _ _)) _ _ _); first | (refine eq_lit (b := true) (by first | assumption | decide +kernel) ?_) | (refine eq_lit (b := false) (by first | assumption | decide +kernel) ?_)) | ((with_reducible show wpAny _ _ (compareOp CmpOp.In (Value.str _ _) (Value.str _ _)) _ _ _); first | (refine in_lit (b := true) (by first | assumption | decide +kernel) ?_) | (refine in_lit (b := false) (by first | assumption | decide +kernel) ?_)) | fail "none")) | walk1
      (repeat' ((fail_if_success (with_reducible show wpAny _ _ (compareOp CmpOp.In (Value.str _ _) (Value.str _ _)) _ _ _)); (first | (k_unfold; (try dsimp only)) | ((with_reducible refine wpAny_execs_cons ?_); k_fold) | ((first | ((with_reducible show wpAny _ _ (truthy (Value.str _ _)) _ _ _); k_dflt (first | (refine truthy_lit (b := true) (by show 1 ≤ 100000; omega) (one_true _) (fun _ => ?_)) | (refine truthy_lit (b := false) (by decide +kernel) (by decide +kernel) (fun _ => ?_)))) | ((with_reducible show wpAny _ _ (compareOp CmpOp.Eq (Value.str _ _) (Value.str _ _)) _ _ _); first | (refine eq_lit (b := true) (by first | assumption | decide +kernel) ?_) | (refine eq_lit (b := false) (by first | assumption | decide +kernel) ?_)) | ((with_reducible show wpAny _ _ (compareOp CmpOp.In (Value.str _ _) (Value.str _ _)) _ _ _); first | (refine in_lit (b := true) (by first | assumption | decide +kernel) ?_) | (refine in_lit (b := false) (by first | assumption | decide +kernel) ?_)) | fail "none")) | walk1 | dsimp only)))
      first | ((first | ((with_reducible show wpAny _ _ (truthy (Value.str _ _)) _ _ _); k_dflt (first | (refine truthy_lit (b := true) (by show 1 ≤ 100000; omega) (one_true _) (fun _ => ?_)) | (refine truthy_lit (b := false) (by decide +kernel) (by decide +kernel) (fun _ => ?_)))) | ((with_reducible show wpAny _ _ (compareOp CmpOp.Eq (Value.str _ _) (Value.str _ _)) _ _ _); first | (refine eq_lit (b := true) (by first | assumption | decide +kernel) ?_) | (refine eq_lit (b := false) (by first | assumption | decide +kernel) ?_)) | ((with_reducible show wpAny _ _ (compareOp CmpOp.In (Value.str _ _) (Value.str _ _)) _ _ _); first | (refine in_lit (b := true) (by first | assumption | decide +kernel) ?_) | (refine in_lit (b := false) (by first | assumption | decide +kernel) ?_)) | fail "none")) | walk1
      (repeat' ((fail_if_success (with_reducible show wpAny _ _ (compareOp CmpOp.In (Value.str _ _) (Value.str _ _)) _ _ _)); (first | (k_unfold; (try dsimp only)) | ((with_reducible refine wpAny_execs_cons ?_); k_fold) | ((first | ((with_reducible show wpAny _ _ (truthy (Value.str _ _)) _ _ _); k_dflt (first | (refine truthy_lit (b := true) (by show 1 ≤ 100000; omega) (one_true _) (fun _ => ?_)) | (refine truthy_lit (b := false) (by decide +kernel) (by decide +kernel) (fun _ => ?_)))) | ((with_reducible show wpAny _ _ (compareOp CmpOp.Eq (Value.str _ _) (Value.str _ _)) _ _ _); first | (refine eq_lit (b := true) (by first | assumption | decide +kernel) ?_) | (refine eq_lit (b := false) (by first | assumption | decide +kernel) ?_)) | ((with_reducible show wpAny _ _ (compareOp CmpOp.In (Value.str _ _) (Value.str _ _)) _ _ _); first | (refine in_lit (b := true) (by first | assumption | decide +kernel) ?_) | (refine in_lit (b := false) (by first | assumption | decide +kernel) ?_)) | fail "none")) | walk1 | dsimp only)))
      by_cases h32 : c9 = 32
      · obtain ⟨r1, r2, r3⟩ := hsp h32
        refine in_lit (b := true) (by rw [h32]; decide +kernel) ?_
        rw [r1, r2, r3] at hQ
        (repeat' (first | (k_unfold; (try dsimp only)) | (k_end; wrow_close) | ((with_reducible refine wpAny_execs_cons ?_); k_fold) | ((first | ((with_reducible show wpAny _ _ (truthy (Value.str _ _)) _ _ _); k_dflt (first | (refine truthy_lit (b := true) (by show 1 ≤ 100000; omega) (one_true _) (fun _ => ?_)) | (refine truthy_lit (b := false) (by decide +kernel) (by decide +kernel) (fun _ => ?_)))) | ((with_reducible show wpAny _ _ (compareOp CmpOp.Eq (Value.str _ _) (Value.str _ _)) _ _ _); first | (refine eq_lit (b := true) (by first | assumption | decide +kernel) ?_) | (refine eq_lit (b := false) (by first | assumption | decide +kernel) ?_)) | ((with_reducible show wpAny _ _ (compareOp CmpOp.In (Value.str _ _) (Value.str _ _)) _ _ _); first | (refine in_lit (b := true) (by first | assumption | decide +kernel) ?_) | (refine in_lit (b := false) (by first | assumption | decide +kernel) ?_)) | fail "none")) | walk1 | dsimp only | (leave1; walk_say "STEP leave1"; try dsimp only) | fail "no step"))
        all_goals (
          (with_reducible rename GSub _ _ _ => Gq)
          (with_reducible rename Fr _ _ _ _ => Kf)
          (with_reducible rename News _ _ _ _ => Kn)
          clear Kf Kn
          (with_reducible rename Fr _ _ _ _ => F8)
          (with_reducible rename News _ _ _ _ => N8)
          first | exact hQ _ _ _ _ _ _ _ hlen rfl (kx_four Gq F8) ⟨_, rfl⟩ (fun q hq => (N8 q hq).1) | exact hQ _ _ _ _ _ _ _ hlen rfl (kx_four Gq F8) ⟨_, rfl⟩ (fun q hq => (N8 q (.tail _ hq)).1)
        )
      · obtain ⟨hst, hr⟩ := hqt h32
        refine in_lit (b := false) (q_in (by decide +kernel) (by decide +kernel) hst) ?_
        (repeat' ((fail_if_success (with_reducible show wpAny _ _ (compareOp CmpOp.In (Value.str _ _) (Value.str _ _)) _ _ _)); (first | (k_unfold; (try dsimp only)) | ((with_reducible refine wpAny_execs_cons ?_); k_fold) | ((first | ((with_reducible show wpAny _ _ (truthy (Value.str _ _)) _ _ _); k_dflt (first | (refine truthy_lit (b := true) (by show 1 ≤ 100000; omega) (one_true _) (fun _ => ?_)) | (refine truthy_lit (b := false) (by decide +kernel) (by decide +kernel) (fun _ => ?_)))) | ((with_reducible show wpAny _ _ (compareOp CmpOp.Eq (Value.str _ _) (Value.str _ _)) _ _ _); first | (refine eq_lit (b := true) (by first | assumption | decide +kernel) ?_) | (refine eq_lit (b := false) (by first | assumption | decide +kernel) ?_)) | ((with_reducible show wpAny _ _ (compareOp CmpOp.In (Value.str _ _) (Value.str _ _)) _ _ _); first | (refine in_lit (b := true) (by first | assumption | decide +kernel) ?_) | (refine in_lit (b := false) (by first | assumption | decide +kernel) ?_)) | fail "none")) | walk1 | dsimp only)))
        refine in_lit (b := false) (q_in (by decide +kernel) (by decide +kernel) hst) ?_
        (repeat' ((fail_if_success (with_reducible show wpAny _ _ (compareOp CmpOp.In (Value.str _ _) (Value.str _ _)) _ _ _)); (first | (k_unfold; (try dsimp only)) | ((with_reducible refine wpAny_execs_cons ?_); k_fold) | ((first | ((with_reducible show wpAny _ _ (truthy (Value.str _ _)) _ _ _); k_dflt (first | (refine truthy_lit (b := true) (by show 1 ≤ 100000; omega) (one_true _) (fun _ => ?_)) | (refine truthy_lit (b := false) (by decide +kernel) (by decide +kernel) (fun _ => ?_)))) | ((with_reducible show wpAny _ _ (compareOp CmpOp.Eq (Value.str _ _) (Value.str _ _)) _ _ _); first | (refine eq_lit (b := true) (by first | assumption | decide +kernel) ?_) | (refine eq_lit (b := false) (by first | assumption | decide +kernel) ?_)) | ((with_reducible show wpAny _ _ (compareOp CmpOp.In (Value.str _ _) (Value.str _ _)) _ _ _); first | (refine in_lit (b := true) (by first | assumption | decide +kernel) ?_) | (refine in_lit (b := false) (by first | assumption | decide +kernel) ?_)) | fail "none")) | walk1 | dsimp only)))
        refine in_lit (b := true) (q_in (by decide +kernel) (by decide +kernel) hst) ?_
        (repeat' (first | (k_unfold; (try dsimp only)) | (k_end; wrow_close) | ((with_reducible refine wpAny_execs_cons ?_); k_fold) | ((first | ((with_reducible show wpAny _ _ (truthy (Value.str _ _)) _ _ _); k_dflt (first | (refine truthy_lit (b := true) (by show 1 ≤ 100000; omega) (one_true _) (fun _ => ?_)) | (refine truthy_lit (b := false) (by decide +kernel) (by decide +kernel) (fun _ => ?_)))) | ((with_reducible show wpAny _ _ (compareOp CmpOp.Eq (Value.str _ _) (Value.str _ _)) _ _ _); first | (refine eq_lit (b := true) (by first | assumption | decide +kernel) ?_) | (refine eq_lit (b := false) (by first | assumption | decide +kernel) ?_)) | ((with_reducible show wpAny _ _ (compareOp CmpOp.In (Value.str _ _) (Value.str _ _)) _ _ _); first | (refine in_lit (b := true) (by first | assumption | decide +kernel) ?_) | (refine in_lit (b := false) (by first | assumption | decide +kernel) ?_)) | fail "none")) | walk1 | dsimp only | (leave1; walk_say "STEP leave1"; try dsimp only) | fail "no step"))
        ((with_reducible rename Fr _ _ _ _ => F9); (with_reducible rename News _ _ _ _ => N9); refine' rt_end F9 ?eN ?eS ?eT rfl rfl (fun z z1 z2 z3 z4 => ?eR) hlen ?eL hr ?e3 ?e4 rfl; (case eN => first | exact N9 | exact fun p hp => N9 p (.tail _ hp)); (case eS => first | rfl | decide +kernel); (case eT => first | rfl | exact tok_app _ _); (case eR => simp only [kstB, if_neg z1, if_neg z2, if_neg z3, z4, Bool.false_eq_true, if_false]); (case eL => first | exact Nat.le_succ_of_le htl | (rw [List.length_append]; exact Nat.succ_le_succ htl)); (case e3 => intro hh; first | rfl | (cases hh)); (case e4 => intro hh; exact absurd hh (q_32 hst)))
end
section
theorem rtokn_spec {w : World} {A : Around} {s : Shared} {Q E : Value → Shared → Prop} {lex d sio dx pb fs : Addr} {k v k2 : Nat → Tok} {x : Str} {t tp tt : Tok} {p : Nat}
    (hc : CxN w A s.heap 5 (rtRet w.params k v k2 lex d sio dx pb fs x t .none (Str.ofString "") tt p tp))
    (hne : @Ne Nat lex d ∧ @Ne Nat lex sio ∧ @Ne Nat lex dx ∧ @Ne Nat d sio ∧ @Ne Nat d dx ∧ @Ne Nat sio dx) (hx : x.length ≤ 10000) (hp : p ≤ x.length) (hpx : x.length ≤ p)
    (hQ : ∀ tt' tp' h' tk', Kx [lex, d, sio, dx] s.heap h' → (∀ q ∈ rtRet w.params k v k2 lex d sio dx pb fs x t .none (Str.ofString "") tt' p tp', h'.get? q.1 = some q.2) → Q .none { s with heap := h', toks := tk' }) :
    wpAny (model prog w) A (call (.ref 738) [.ref lex]) Q E s := by
  obtain ⟨dp, un, gd, cn, cs, L, a, ccd, cl, outer, A₀, base, h₀, m, mean, mg, mb, rfl, B, F, X, T, hk, h1, h2, N⟩ := hc
  refine wpAny_call ?_
  obtain ⟨q1, q2, q3, q4, q5, q6⟩ := hne
  k_dflt (refine' code_defG ?k1 ?k2 ?k3 ?k4 ?k5 ?kA ?kF ?kK ?k6 ?k7 ?k8 ?k9 ?kB ?_ ?c2 ?c3 ?c4 ?c5; (case kA => exact rfl); (case kF => exact rfl); (case kK => assumption); (case k1 => k_asm); (case k2 => k_asm); (case k3 => k_asm); (case k4 => k_asm); (case k5 => k_asm); (case k6 => k_is); (case k7 => k_is); (case k8 => exact room (by assumption)); (case k9 => first | exact BindsTo.of_eq rfl | exact binds_K (by k_in) rfl (by k_is) rfl rfl rfl); (case c5 => decide); (case kB => exact locs rfl); (case c2 => exact rfl); (case c3 => exact rfl); (case c4 => exact rfl); k_whole; intro _ _ _ _ _ _ _ _ _ _; (try dsimp only))
  k_fold
  (repeat' ((fail_if_success (with_reducible show wpAny _ _ (exec (PySem.Stmt.While _ _ _ _) _) _ _ _)); (first | (k_unfold; (try dsimp only)) | ((first | ((with_reducible show wpAny _ _ (truthy (Value.str _ _)) _ _ _); k_dflt (first | (refine truthy_lit (b := true) (by show 1 ≤ 100000; omega) (one_true _) (fun _ => ?_)) | (refine truthy_lit (b := false) (by decide +kernel) (by decide +kernel) (fun _ => ?_)))) | ((with_reducible show wpAny _ _ (compareOp CmpOp.Eq (Value.str _ _) (Value.str _ _)) _ _ _); first | (refine eq_lit (b := true) (by first | assumption | decide +kernel) ?_) | (refine eq_lit (b := false) (by first | assumption | decide +kernel) ?_)) | ((with_reducible show wpAny _ _ (compareOp CmpOp.In (Value.str _ _) (Value.str _ _)) _ _ _); first | (refine in_lit (b := true) (by first | assumption | decide +kernel) ?_) | (refine in_lit (b := false) (by first | assumption | decide +kernel) ?_)) | fail "none")) | walk1 | dsimp only)))
  (with_reducible rename Fr _ _ _ _ => F1)
  (with_reducible rename News _ _ _ _ => N1)
  dsimp only at F1
  rename_i g L' h0 FG BB XX TT GS h3 h4
  refine ksw_while (σ := Unit) (fun _ => rtRet w.params k v k2 lex d sio dx pb fs x t .none (Str.ofString "") tt p tp)
    (fun c => [(Str.ofString "escapedstate", .str (Str.ofString " ") (tk + 1)), (Str.ofString "quoted", .bool false)]) (fun _ => True) [Str.ofString "nextchar"]
    (fun c => True) (fun c => 0) () F1 N1 trivial ?hps trivial ?turn
  case hps =>
    intro p hp
    simp only [List.mem_cons, List.not_mem_nil, or_false] at hp
    rcases hp with rfl | rfl
    · exact rfl
    · exact rfl
  rintro - u h5 tk5 - - F2 N2
  have F3 : Fr g L' h5 _ := F2
  have N3 : News g L' h5 [(lex, instObj 770 d), (d, dictOf (lexEs w.params k v sio pb fs .none (.str (Str.ofString "") tt)) 19), (sio, instObj 635 dx), (dx, dictOf (sioEs w.params k2 (.str x t) (.int (p : Nat) tp)) 3)] := N2
  clear F2 N2 F1 N1
  (repeat' ((fail_if_success (with_reducible show wpAny _ _ (call (Value.ref 581) _) _ _ _)); (first | (k_unfold; (try dsimp only)) | ((first | ((with_reducible show wpAny _ _ (truthy (Value.str _ _)) _ _ _); k_dflt (first | (refine truthy_lit (b := true) (by show 1 ≤ 100000; omega) (one_true _) (fun _ => ?_)) | (refine truthy_lit (b := false) (by decide +kernel) (by decide +kernel) (fun _ => ?_)))) | ((with_reducible show wpAny _ _ (compareOp CmpOp.Eq (Value.str _ _) (Value.str _ _)) _ _ _); first | (refine eq_lit (b := true) (by first | assumption | decide +kernel) ?_) | (refine eq_lit (b := false) (by first | assumption | decide +kernel) ?_)) | ((with_reducible show wpAny _ _ (compareOp CmpOp.In (Value.str _ _) (Value.str _ _)) _ _ _); first | (refine in_lit (b := true) (by first | assumption | decide +kernel) ?_) | (refine in_lit (b := false) (by first | assumption | decide +kernel) ?_)) | fail "none")) | walk1 | dsimp only)))
  (with_reducible rename Fr _ _ _ _ => Fq)
  (with_reducible rename News _ _ _ _ => Nq)
  refine' read_K (x := x) (p := p) (k := k2) (t := t) (tp := tp) ?hc Fq Nq (by k_mem : (sio, instObj 635 dx) ∈ _) ?ru q6 hx hp ?_ ?_
  case hc => exact cxN_deeper (by assumption) Fq (by assumption) (by assumption) (by rfl) (by omega) (by omega) (news_sub Nq (by kd_inAll))
  case ru => k_updF
  · intro hlen t9 h9 tk9 F9 N9
    clear Fq Nq F3 N3
    (repeat' (first | (k_unfold; (try dsimp only)) | (k_end; wrow_close) | ((first | ((with_reducible show wpAny _ _ (truthy (Value.str _ _)) _ _ _); k_dflt (first | (refine truthy_lit (b := true) (by show 1 ≤ 100000; omega) (one_true _) (fun _ => ?_)) | (refine truthy_lit (b := false) (by decide +kernel) (by decide +kernel) (fun _ => ?_)))) | ((with_reducible show wpAny _ _ (compareOp CmpOp.Eq (Value.str _ _) (Value.str _ _)) _ _ _); first | (refine eq_lit (b := true) (by first | assumption | decide +kernel) ?_) | (refine eq_lit (b := false) (by first | assumption | decide +kernel) ?_)) | ((with_reducible show wpAny _ _ (compareOp CmpOp.In (Value.str _ _) (Value.str _ _)) _ _ _); first | (refine in_lit (b := true) (by first | assumption | decide +kernel) ?_) | (refine in_lit (b := false) (by first | assumption | decide +kernel) ?_)) | fail "none")) | walk1 | dsimp only | (leave1; walk_say "STEP leave1"; try dsimp only) | fail "no step"))
    all_goals (
      (with_reducible rename GSub _ _ _ => Gq)
      (with_reducible rename Fr _ _ _ _ => Kf)
      (with_reducible rename News _ _ _ _ => Kn)
      clear Kf Kn
      (with_reducible rename Fr _ _ _ _ => F8)
      (with_reducible rename News _ _ _ _ => N8)
      first | exact hQ _ _ _ _ (kx_four Gq F8) (fun q hq => (N8 q hq).1))
  · intro hlen
    omega
end
section
theorem led_kx {g h h' : Heap} {L : Addr} {m : Str → Option Value} {news news' : List (Addr × Obj)} {X : List Addr} (F : Fr g L h m) (N : News g L h news) (k : Kx X h h') (hX : ∀ b ∈ X, ∃ o, (b, o) ∈ news) (hn : ∀ p ∈ news', h'.get? p.1 = some p.2 ∧ ∃ o, (p.1, o) ∈ news) :
    Fr g L h' m ∧ News g L h' news' :=
  ⟨fr_kxL F k (fun b hb => (N _ (hX b hb).choose_spec).2.2) (fun hb => (N _ (hX L hb).choose_spec).2.1 rfl), fun p hp => ⟨(hn p hp).1, (N _ (hn p hp).2.choose_spec).2⟩⟩
/-- the ledger of the six after a step that changes the shlex object and its stream -/
theorem led_six {g h h' : Heap} {L : Addr} {m : Str → Option Value} {P : Params} {k v k2 : Nat → Tok} {lex d sio dx pb fs : Addr} {x : Str} {t : Tok} {st st' : Value} {tok tok' : Str} {tt tt' : Tok} {p p' : Nat} {tp tp' : Tok} 
    (F : Fr g L h m) (N : News g L h (rtRet P k v k2 lex d sio dx pb fs x t st tok tt p tp ++ [(pb, dqObj), (fs, dqObj)])) (kx : Kx [lex, d, sio, dx] h h') (hpb : pb ∉ [lex, d, sio, dx]) (hfs : fs ∉ [lex, d, sio, dx])
    (hn : ∀ q ∈ rtRet P k v k2 lex d sio dx pb fs x t st' tok' tt' p' tp', h'.get? q.1 = some q.2) : Fr g L h' m ∧ News g L h' (rtRet P k v k2 lex d sio dx pb fs x t st' tok' tt' p' tp' ++ [(pb, dqObj), (fs, dqObj)]) := by
  refine led_kx F N kx ?_ ?_
  · intro b hb
    simp only [List.mem_cons, List.not_mem_nil, or_false] at hb
    rcases hb with rfl | rfl | rfl | rfl
    · exact ⟨_, .head _⟩
    · exact ⟨_, .tail _ (.head _)⟩
    · exact ⟨_, .tail _ (.tail _ (.head _))⟩
    · exact ⟨_, .tail _ (.tail _ (.tail _ (.head _)))⟩
  · intro q hq
    rcases List.mem_append.mp hq with hq' | hq'
    · refine ⟨hn q hq', ?_⟩
      simp only [rtRet, List.mem_cons, List.not_mem_nil, or_false] at hq'
      rcases hq' with rfl | rfl | rfl | rfl
      · exact ⟨_, .head _⟩
      · exact ⟨_, .tail _ (.head _)⟩
      · exact ⟨_, .tail _ (.tail _ (.head _))⟩
      · exact ⟨_, .tail _ (.tail _ (.tail _ (.head _)))⟩
    · have hin : ∃ o, (q.1, o) ∈ rtRet P k v k2 lex d sio dx pb fs x t st tok tt p tp ++ [(pb, dqObj), (fs, dqObj)] := ⟨q.2, List.mem_append_right _ hq'⟩
      refine ⟨kx _ _ ?_ (N q (List.mem_append_right _ hq')).1, hin⟩
      simp only [List.mem_cons, List.not_mem_nil, or_false] at hq'
      rcases hq' with rfl | rfl
      · exact hpb
      · exact hfs
theorem raised_back {base g h' h₀ : Heap} {L e t : Addr} {m : Str → Option Value} {env : Env} {outer : List Env} {C : Value} {vs : List Value} {news : List (Addr × Obj)} (R : RaisedK base (env :: outer) e C t vs news h') (U : g.UpToSlots h') (FG : Fr h₀ L g m) (hab : base.objs.size ≤ L) (hfL : env.frame = some L) :
    Fr base L h' m ∧ News base L h' news ∧ h₀.UpToSlots h' ∧ ∃ ob, h'.get? e = some ob ∧ ob.cls = C := by
  obtain ⟨⟨B, hB, hl, hfl, _⟩, _⟩ := R
  have hL : B.get? L = none := by
    obtain ⟨_, ⟨L', _, hf, hn', _⟩, _⟩ := hfl.2.2.1
    rw [hfL] at hf
    obtain rfl : L = L' := Option.some.inj hf
    exact hn'
  refine ⟨⟨U.ns FG.ns, fun b o e => hfl.1 _ _ (hB b o e), hab⟩, fun q hq => ⟨hfl.1 _ _ (hl q hq).1, (fun z => by have := (hl q hq).1; rw [z, hL] at this; cases this), (hl q hq).2⟩, (Heap.UpToSlots.of_keeps FG.keep).trans U, hfl.there⟩
theorem led_seven {g h h' : Heap} {L S : Addr} {oS : Obj} {news' : List (Addr × Obj)} {X : List Addr} (N : News g L h [(S, oS)]) (N9 : News g L h' news') (kx : Kx X h h') (hS : S ∉ X) : News g L h' (news' ++ [(S, oS)]) := by
  intro q hq
  rcases List.mem_append.mp hq with hq | hq
  · exact N9 q hq
  · have zS := N (S, oS) (.head _)
    rw [List.mem_singleton.mp hq]
    exact ⟨kx _ _ hS zS.1, zS.2⟩
theorem kx_six {h g h' : Heap} {L P P2 P3 P4 P5 P6 : Addr} {m : Str → Option Value} {o o2 o3 o4 o5 o6 : Obj} (G : GSub h g (List.map (fun x : Addr × Obj => x.1) [(P, o), (P2, o2), (P3, o3), (P4, o4), (P5, o5), (P6, o6)])) (F : Fr g L h' m) : Kx [P, P2, P3, P4, P5, P6] h h' := fun b o' hb e => F.keep b o' (G b o' e (by simpa using hb))
end
section
theorem next_tok {w : World} {A : Around} {s : Shared} {Q E : Value → Shared → Prop} {lex d sio dx pb fs : Addr} {k v k2 : Nat → Tok} {x : Str} {t tp tc tt : Tok} {p : Nat} {Tk Rs : List Nat} {en : Bool}
    (hc : CxN w A s.heap 8 [(lex, instObj 770 d), (d, dictOf (lexEs w.params k v sio pb fs (.str (Str.ofString " ") tc) (.str (Str.ofString "") tt)) 19), (sio, instObj 635 dx), (dx, dictOf (sioEs w.params k2 (.str x t) (.int (p : Nat) tp)) 3), (pb, dqObj), (fs, dqObj)])
    (hne : @Ne Nat lex d ∧ @Ne Nat lex sio ∧ @Ne Nat lex dx ∧ @Ne Nat d sio ∧ @Ne Nat d dx ∧ @Ne Nat sio dx) (hpb : pb ∉ [lex, d, sio, dx]) (hfs : fs ∉ [lex, d, sio, dx]) (hx : x.length ≤ 10000) (hp : p ≤ x.length) (hrd : rd (x.cps.toList.drop p) 32 [] = some (Tk, Rs, en))
    (hQ : ∀ p' tp' st' tt' t2 h' tk', p' ≤ x.length → x.cps.toList.drop p' = Rs → Kx [lex, d, sio, dx, pb, fs] s.heap h' → StEnd en st' → (∀ q ∈ rtRet w.params k v k2 lex d sio dx pb fs x t st' (Str.ofString "") tt' p' tp' ++ [(pb, dqObj), (fs, dqObj)], h'.get? q.1 = some q.2) → Q (.str (Str.mk Tk.toArray) t2) { s with heap := h', toks := tk' }) :
    wpAny (model prog w) A (call (.ref 767) [.ref lex]) Q E s := by
  obtain ⟨dp, un, gd, cn, cs, L, a, ccd, cl, outer, A₀, base, h₀, m, mean, mg, mb, rfl, B, F, X, T, hk, h1, h2, N⟩ := hc
  refine wpAny_call ?_
  obtain ⟨q1, q2, q3, q4, q5, q6⟩ := hne
  k_dflt (refine' code_defG ?k1 ?k2 ?k3 ?k4 ?k5 ?kA ?kF ?kK ?k6 ?k7 ?k8 ?k9 ?kB ?_ ?c2 ?c3 ?c4 ?c5; (case kA => exact rfl); (case kF => exact rfl); (case kK => assumption); (case k1 => k_asm); (case k2 => k_asm); (case k3 => k_asm); (case k4 => k_asm); (case k5 => k_asm); (case k6 => k_is); (case k7 => k_is); (case k8 => exact room (by assumption)); (case k9 => first | exact BindsTo.of_eq rfl | exact binds_K (by k_in) rfl (by k_is) rfl rfl rfl); (case c5 => decide); (case kB => exact locs rfl); (case c2 => exact rfl); (case c3 => exact rfl); (case c4 => exact rfl); k_whole; intro _ _ _ _ _ _ _ _ _ _; (try dsimp only))
  k_fold
  (repeat' ((fail_if_success (with_reducible show wpAny _ _ (call (Value.ref 738) _) _ _ _)); (first | (k_unfold; (try dsimp only)) | ((first | ((with_reducible show wpAny _ _ (truthy (Value.ref _)) _ _ _); ((with_reducible rename News _ _ _ _ => kN); k_dflt (refine dqtruth_K kN (by k_mem) fun tk9 => ?_))) | fail "none")) | walk1 | dsimp only)))
  (with_reducible rename Fr _ _ _ _ => Fq)
  (with_reducible rename News _ _ _ _ => Nq)
  have e32 : Str.ofString " " = Str.mk #[32] := by decide +kernel
  have e0 : Str.ofString "" = Str.mk #[] := by decide +kernel
  refine rtok_spec (k := k) (v := v) (k2 := k2) (pb := pb) (fs := fs) (tc := tc) (tt := tt) (t := t) (tp := tp) ?hc ⟨q1, q2, q3, q4, q5, q6⟩ hx hp hrd fun p9 tp9 st9 tt9 t9 h9 tk9 hp9 hd9 kx9 hs9 hn9 => ?_
  case hc => 
    rw [← e32, ← e0]
    exact cxN_deeper (by assumption) Fq (by assumption) (by assumption) (by rfl) (by change dp + 1 + (5 + 1) < 1000; omega) (by change un + 3 + 10 * (5 + 1) + 1000 < 9900; omega) (news_sub Nq (by kd_inAll))
  obtain ⟨F9, N9⟩ := led_six (k := k) (v := v) (k2 := k2) (st := .str (Str.ofString " ") tc) (tok := Str.ofString "") (tt := tt) (t := t) (tp := tp) (p := p) Fq Nq kx9 hpb hfs hn9
  have N10 : News _ _ h9 [(lex, instObj 770 d), (d, dictOf (lexEs w.params k v sio pb fs st9 (.str (Str.ofString "") tt9)) 19), (sio, instObj 635 dx), (dx, dictOf (sioEs w.params k2 (.str x t) (.int (p9 : Nat) tp9)) 3), (pb, dqObj), (fs, dqObj)] := N9
  clear N9 Fq Nq
  (repeat' (first | (k_unfold; (try dsimp only)) | (k_end; wrow_close) | ((first | ((with_reducible show wpAny _ _ (truthy (Value.ref _)) _ _ _); ((with_reducible rename News _ _ _ _ => kN); k_dflt (refine dqtruth_K kN (by k_mem) fun tk9 => ?_))) | fail "none")) | walk1 | dsimp only | (leave1; walk_say "STEP leave1"; try dsimp only) | fail "no step"))
  (with_reducible rename GSub _ _ _ => Gq)
  (with_reducible rename Fr _ _ _ _ => Kf)
  (with_reducible rename News _ _ _ _ => Kn)
  clear Kf Kn
  (with_reducible rename Fr _ _ _ _ => F8)
  (with_reducible rename News _ _ _ _ => N8)
  exact hQ _ _ _ _ _ _ _ hp9 hd9 (kx_six Gq F8) hs9 (fun q hq => (N8 q hq).1)
end
section
theorem next_end {w : World} {s : Shared} {Q E : Value → Shared → Prop} {lex d sio dx pb fs S : Addr} {oS : Obj} {k v k2 : Nat → Tok} {x : Str} {t tp tt : Tok} {p : Nat}
    {dp un : Nat} {gd : Option (List Code)} {cn : Str} {cs : Scope} {L a : Addr} {ccd : Value} {cl : List (Str × Addr)} {outer : List Env} {A₀ : Around} {base h₀ : Heap} {m : Str → Option Value} {mean : ExcName → Option Value} {mg mb : Str → Option Value}
    (B : Below A₀ base outer h₀) (F : Fr h₀ L s.heap m) (X : (tKf w.params).In h₀) (T : Top topProg loose mean mg mb h₀) (hk : cs.kind = .function) (h1 : dp + 8 < 1000) (h2 : un + 10 * 8 + 1000 < 9900) (hab : base.objs.size ≤ L)
    (N : News h₀ L s.heap [(lex, instObj 770 d), (d, dictOf (lexEs w.params k v sio pb fs .none (.str (Str.ofString "") tt)) 19), (sio, instObj 635 dx), (dx, dictOf (sioEs w.params k2 (.str x t) (.int (p : Nat) tp)) 3), (pb, dqObj), (fs, dqObj), (S, oS)])
    (hne : @Ne Nat lex d ∧ @Ne Nat lex sio ∧ @Ne Nat lex dx ∧ @Ne Nat d sio ∧ @Ne Nat d dx ∧ @Ne Nat sio dx) (hpb : pb ∉ [lex, d, sio, dx]) (hfs : fs ∉ [lex, d, sio, dx]) (hS : S ∉ [lex, d, sio, dx]) (hx : x.length ≤ 10000) (hp : p ≤ x.length) (hpx : x.length ≤ p)
    (hE : ∀ e h' tk', Fr base L h' m → (h'.get? S = some oS ∧ S ≠ L ∧ base.get? S = none) → h₀.UpToSlots h' → (∃ ob, h'.get? e = some ob ∧ ob.cls = .type "StopIteration") → E (.ref e) { s with heap := h', toks := tk' }) :
    wpAny (model prog w) (ktrTop dp un gd cn cs L a ccd cl outer) (call (.ref 767) [.ref lex]) Q E s := by
  refine wpAny_call ?_
  obtain ⟨q1, q2, q3, q4, q5, q6⟩ := hne
  k_dflt (refine' code_defG ?k1 ?k2 ?k3 ?k4 ?k5 ?kA ?kF ?kK ?k6 ?k7 ?k8 ?k9 ?kB ?_ ?c2 ?c3 ?c4 ?c5; (case kA => exact rfl); (case kF => exact rfl); (case kK => assumption); (case k1 => k_asm); (case k2 => k_asm); (case k3 => k_asm); (case k4 => k_asm); (case k5 => k_asm); (case k6 => k_is); (case k7 => k_is); (case k8 => exact room (by assumption)); (case k9 => first | exact BindsTo.of_eq rfl | exact binds_K (by k_in) rfl (by k_is) rfl rfl rfl); (case c5 => decide); (case kB => exact locs rfl); (case c2 => exact rfl); (case c3 => exact rfl); (case c4 => exact rfl); k_whole; intro _ _ _ _ _ _ _ _ _ _; (try dsimp only))
  k_fold
  (repeat' ((fail_if_success (with_reducible show wpAny _ _ (call (Value.ref 738) _) _ _ _)); (first | (k_unfold; (try dsimp only)) | ((first | ((with_reducible show wpAny _ _ (truthy (Value.ref _)) _ _ _); ((with_reducible rename News _ _ _ _ => kN); k_dflt (refine dqtruth_K kN (by k_mem) fun tk9 => ?_))) | fail "none")) | walk1 | dsimp only)))
  (with_reducible rename Fr _ _ _ _ => Fq)
  (with_reducible rename News _ _ _ _ => Nq)
  refine rtokn_spec (k := k) (v := v) (k2 := k2) (pb := pb) (fs := fs) (tt := tt) (t := t) (tp := tp) ?hc ⟨q1, q2, q3, q4, q5, q6⟩ hx hp hpx fun tt9 tp9 h9 tk9 kx9 hn9 => ?_
  case hc => exact cxN_deeper (news := rtRet w.params k v k2 lex d sio dx pb fs x t .none (Str.ofString "") tt p tp) (by assumption) Fq (by assumption) (by assumption) (by rfl) (by change dp + 1 + (5 + 1) < 1000; omega) (by change un + 3 + 10 * (5 + 1) + 1000 < 9900; omega) (news_sub Nq (fun q hq => List.mem_append_left [(pb, dqObj), (fs, dqObj), (S, oS)] hq))
  have Nq6 := news_sub Nq (fun q hq => List.mem_append_left [(S, oS)] (hq : q ∈ rtRet w.params k v k2 lex d sio dx pb fs x t .none (Str.ofString "") tt p tp ++ [(pb, dqObj), (fs, dqObj)]))
  obtain ⟨F9, N9⟩ := led_six (k := k) (v := v) (k2 := k2) (st := .none) (tok := Str.ofString "") (tt := tt) (t := t) (tp := tp) (p := p) Fq Nq6 kx9 hpb hfs hn9
  have N10 : News _ _ h9 [(lex, instObj 770 d), (d, dictOf (lexEs w.params k v sio pb fs .none (.str (Str.ofString "") tt9)) 19), (sio, instObj 635 dx), (dx, dictOf (sioEs w.params k2 (.str x t) (.int (p : Nat) tp9)) 3), (pb, dqObj), (fs, dqObj), (S, oS)] := led_seven (news_one Nq (by k_mem : (S, oS) ∈ _)) N9 kx9 hS
  clear N9 Fq Nq Nq6
  (repeat' (first | (k_unfold; (try dsimp only)) | (k_end; wrow_close) | ((first | ((with_reducible show wpAny _ _ (truthy (Value.ref _)) _ _ _); ((with_reducible rename News _ _ _ _ => kN); k_dflt (refine dqtruth_K kN (by k_mem) fun tk9 => ?_))) | fail "none")) | walk1 | dsimp only | (leave1; walk_say "STEP leave1"; try dsimp only) | fail "no step"))
  rename_i R9 U9
  obtain ⟨b1, b2, b3, b4⟩ := raised_back R9 U9 (by assumption) hab rfl
  exact hE _ _ _ b1 (b2 (S, oS) (by k_mem)) b3 b4
end
section
theorem iter_spec {w : World} {A : Around} {s : Shared} {Q E : Value → Shared → Prop} {lex d : Addr}
    (hc : CxN w A s.heap 3 [(lex, instObj 770 d)])
    (hQ : ∀ h' tk', Kx [lex] s.heap h' → h'.get? lex = some (instObj 770 d) → Q (.ref lex) { s with heap := h', toks := tk' }) :
    wpAny (model prog w) A (call (.ref 760) [.ref lex]) Q E s := by
  obtain ⟨dp, un, gd, cn, cs, L, a, ccd, cl, outer, A₀, base, h₀, m, mean, mg, mb, rfl, B, F, X, T, hk, h1, h2, N⟩ := hc
  refine wpAny_call ?_
  k_dflt (refine' code_defG ?k1 ?k2 ?k3 ?k4 ?k5 ?kA ?kF ?kK ?k6 ?k7 ?k8 ?k9 ?kB ?_ ?c2 ?c3 ?c4 ?c5; (case kA => exact rfl); (case kF => exact rfl); (case kK => assumption); (case k1 => k_asm); (case k2 => k_asm); (case k3 => k_asm); (case k4 => k_asm); (case k5 => k_asm); (case k6 => k_is); (case k7 => k_is); (case k8 => exact room (by assumption)); (case k9 => first | exact BindsTo.of_eq rfl | exact binds_K (by k_in) rfl (by k_is) rfl rfl rfl); (case c5 => decide); (case kB => exact locs rfl); (case c2 => exact rfl); (case c3 => exact rfl); (case c4 => exact rfl); k_whole; intro _ _ _ _ _ _ _ _ _ _; (try dsimp only))
  k_fold
  k_steps
  (with_reducible rename GSub _ _ _ => Gq)
  (with_reducible rename Fr _ _ _ _ => Kf)
  (with_reducible rename News _ _ _ _ => Kn)
  clear Kf Kn
  (with_reducible rename Fr _ _ _ _ => F8)
  (with_reducible rename News _ _ _ _ => N8)
  exact hQ _ _ (fun b o' hb e => F8.keep b o' (Gq b o' e (by simpa using hb))) (N8 _ (.head _)).1
end
section
inductive Toks : List Nat → List (List Nat) → Prop
  | last {cs g : List Nat} : rd cs 32 [] = some (g, [], true) → Toks cs [g]
  | more {cs g rest : List Nat} {gs : List (List Nat)} : rd cs 32 [] = some (g, rest, false) → Toks rest gs → Toks cs (g :: gs)
noncomputable abbrev lexLed (P : Params) (k v k2 : Nat → Tok) (lex d sio dx pb fs : Addr) (x : Str) (t : Tok) (st : Value) (tt : Tok) (p : Nat) (tp : Tok) : List (Addr × Obj) :=
  [(lex, instObj 770 d), (d, dictOf (lexEs P k v sio pb fs st (.str (Str.ofString "") tt)) 19), (sio, instObj 635 dx), (dx, dictOf (sioEs P k2 (.str x t) (.int (p : Nat) tp)) 3), (pb, dqObj), (fs, dqObj)]
section
variable {w : World} {lex d sio dx pb fs S : Addr} {k v k2 : Nat → Tok} {x : Str} {t : Tok}
    {dp un : Nat} {gd : Option (List Code)} {cn : Str} {cs : Scope} {L a : Addr} {ccd : Value} {cl : List (Str × Addr)} {outer : List Env} {A₀ : Around} {base h₀ : Heap} {m : Str → Option Value} {mean : ExcName → Option Value} {mg mb : Str → Option Value}
theorem led_own {g h h' : Heap} {L : Addr} {m : Str → Option Value} {st st' : Value} {tt tt' : Tok} {p p' : Nat} {tp tp' : Tok} {oS : Obj} 
    (F : Fr g L h m) (N : News g L h (lexLed w.params k v k2 lex d sio dx pb fs x t st tt p tp ++ [(S, oS)])) (kx : Kx [lex, d, sio, dx, pb, fs] h h') (hS : S ∉ [lex, d, sio, dx, pb, fs])
    (hn : ∀ q ∈ lexLed w.params k v k2 lex d sio dx pb fs x t st' tt' p' tp', h'.get? q.1 = some q.2) : Fr g L h' m ∧ News g L h' (lexLed w.params k v k2 lex d sio dx pb fs x t st' tt' p' tp' ++ [(S, oS)]) := by
  refine led_kx F N kx ?_ ?_
  · intro b hb
    simp only [List.mem_cons, List.not_mem_nil, or_false] at hb
    rcases hb with rfl | rfl | rfl | rfl | rfl | rfl
    · exact ⟨_, .head _⟩
    · exact ⟨_, .tail _ (.head _)⟩
    · exact ⟨_, .tail _ (.tail _ (.head _))⟩
    · exact ⟨_, .tail _ (.tail _ (.tail _ (.head _)))⟩
    · exact ⟨_, .tail _ (.tail _ (.tail _ (.tail _ (.head _))))⟩
    · exact ⟨_, .tail _ (.tail _ (.tail _ (.tail _ (.tail _ (.head _)))))⟩
  · intro q hq
    rcases List.mem_append.mp hq with hq' | hq'
    · refine ⟨hn q hq', ?_⟩
      simp only [lexLed, List.mem_cons, List.not_mem_nil, or_false] at hq'
      rcases hq' with rfl | rfl | rfl | rfl | rfl | rfl
      · exact ⟨_, .head _⟩
      · exact ⟨_, .tail _ (.head _)⟩
      · exact ⟨_, .tail _ (.tail _ (.head _))⟩
      · exact ⟨_, .tail _ (.tail _ (.tail _ (.head _)))⟩
      · exact ⟨_, .tail _ (.tail _ (.tail _ (.tail _ (.head _))))⟩
      · exact ⟨_, .tail _ (.tail _ (.tail _ (.tail _ (.tail _ (.head _)))))⟩
    · refine ⟨?_, q.2, List.mem_append_right _ hq'⟩
      rw [List.mem_singleton.mp hq'] 
      exact kx _ _ hS (N (S, oS) (List.mem_append_right _ (.head _))).1
/-- next(lex), a token -/
theorem pynext_tok {s : Shared} {E : Value → Shared → Prop} {tc tt : Tok} {p : Nat} {tp : Tok} {oS : Obj} {Tk Rs : List Nat} {en : Bool} {Q : Option Value → Shared → Prop}
    (B : Below A₀ base outer h₀) (F : Fr h₀ L s.heap m) (X : (tKf w.params).In h₀) (T : Top topProg loose mean mg mb h₀) (hk : cs.kind = .function) (h1 : dp + 8 < 1000) (h2 : un + 10 * 8 + 1000 < 9900)
    (N : News h₀ L s.heap (lexLed w.params k v k2 lex d sio dx pb fs x t (.str (Str.ofString " ") tc) tt p tp ++ [(S, oS)]))
    (hne : @Ne Nat lex d ∧ @Ne Nat lex sio ∧ @Ne Nat lex dx ∧ @Ne Nat d sio ∧ @Ne Nat d dx ∧ @Ne Nat sio dx) (hpb : pb ∉ [lex, d, sio, dx]) (hfs : fs ∉ [lex, d, sio, dx]) (hS : S ∉ [lex, d, sio, dx, pb, fs]) (hx : x.length ≤ 10000) (hp : p ≤ x.length) (hrd : rd (x.cps.toList.drop p) 32 [] = some (Tk, Rs, en))
    (hQ : ∀ p' tp' st' tt' t2 h' tk', p' ≤ x.length → x.cps.toList.drop p' = Rs → StEnd en st' → Fr h₀ L h' m → News h₀ L h' (lexLed w.params k v k2 lex d sio dx pb fs x t st' tt' p' tp' ++ [(S, oS)]) → Q (some (.str (Str.mk Tk.toArray) t2)) { s with heap := h', toks := tk' }) :
    wpAny (model prog w) (ktrTop dp un gd cn cs L a ccd cl outer) (pyNext (.ref lex)) Q E s := by
  have N6 : News h₀ L s.heap (lexLed w.params k v k2 lex d sio dx pb fs x t (.str (Str.ofString " ") tc) tt p tp) := news_sub N fun q hq => List.mem_append_left _ hq
  have I : InstAt s.heap lex (instObj 770 d) 770 (some (dictOf (lexEs w.params k v sio pb fs (.str (Str.ofString " ") tc) (.str (Str.ofString "") tt)) 19)) := by k_inst
  refine owit_next (f := 767) F X I (by k_is) (by k_is) ?_
  refine next_tok (k := k) (v := v) (k2 := k2) (t := t) (tp := tp) ⟨dp, un, gd, cn, cs, L, a, ccd, cl, outer, A₀, base, h₀, m, mean, mg, mb, rfl, B, F, X, T, hk, h1, h2, N6⟩ hne hpb hfs hx hp hrd fun p9 tp9 st9 tt9 t9 h9 tk9 hp9 hd9 kx9 hs9 hn9 => ?_
  obtain ⟨F9, N9⟩ := led_own (w := w) (k := k) (v := v) (k2 := k2) (t := t) F N kx9 hS hn9
  exact hQ _ _ _ _ _ _ _ hp9 hd9 hs9 F9 N9
theorem pynext_end {s : Shared} {E : Value → Shared → Prop} {tt : Tok} {p : Nat} {tp : Tok} {oS : Obj} {Q : Option Value → Shared → Prop}
    (B : Below A₀ base outer h₀) (F : Fr h₀ L s.heap m) (X : (tKf w.params).In h₀) (T : Top topProg loose mean mg mb h₀) (hk : cs.kind = .function) (h1 : dp + 8 < 1000) (h2 : un + 10 * 8 + 1000 < 9900) (hab : base.objs.size ≤ L)
    (N : News h₀ L s.heap (lexLed w.params k v k2 lex d sio dx pb fs x t .none tt p tp ++ [(S, oS)]))
    (hne : @Ne Nat lex d ∧ @Ne Nat lex sio ∧ @Ne Nat lex dx ∧ @Ne Nat d sio ∧ @Ne Nat d dx ∧ @Ne Nat sio dx) (hpb : pb ∉ [lex, d, sio, dx]) (hfs : fs ∉ [lex, d, sio, dx]) (hS : S ∉ [lex, d, sio, dx, pb, fs]) (hx : x.length ≤ 10000) (hp : p ≤ x.length) (hpx : x.length ≤ p)
    (hQ : ∀ h' tk', Fr base L h' m → (h'.get? S = some oS ∧ S ≠ L ∧ base.get? S = none) → h₀.UpToSlots h' → Q none { s with heap := h', toks := tk' }) :
    wpAny (model prog w) (ktrTop dp un gd cn cs L a ccd cl outer) (pyNext (.ref lex)) Q E s := by
  have I : InstAt s.heap lex (instObj 770 d) 770 (some (dictOf (lexEs w.params k v sio pb fs .none (.str (Str.ofString "") tt)) 19)) := by k_inst
  refine owit_next (f := 767) F X I (by k_is) (by k_is) ?_
  refine next_end (k := k) (v := v) (k2 := k2) (t := t) (tp := tp) B F X T hk h1 h2 hab N hne hpb hfs (fun hm => hS (by revert hm; simp only [List.mem_cons, List.not_mem_nil, or_false]; rintro (q | q | q | q) <;> simp [q])) hx hp hpx fun e h9 tk9 F9 S9 U9 T9 => ?_
  unfold OwitStop
  refine wpAny_isInstance (T := "StopIteration") T9 owsi_facts.sub ?_
  show (if true = true then _ else _)
  rw [if_pos rfl]
  exact hQ _ _ F9 S9 U9
/-- the loop of list.extend over the tokens -/
theorem loop_own {A1 : Around} (hA1 : A1.in1 = ktrTop dp un gd cn cs L a ccd cl outer) {R : Result → Shared → Prop}
    (B : Below A₀ base outer h₀) (X : (tKf w.params).In h₀) (T : Top topProg loose mean mg mb h₀) (hk : cs.kind = .function) (h1 : dp + 8 < 1000) (h2 : un + 10 * 8 + 1000 < 9900) (hab : base.objs.size ≤ L)
    (hne : @Ne Nat lex d ∧ @Ne Nat lex sio ∧ @Ne Nat lex dx ∧ @Ne Nat d sio ∧ @Ne Nat d dx ∧ @Ne Nat sio dx) (hpb : pb ∉ [lex, d, sio, dx]) (hfs : fs ∉ [lex, d, sio, dx]) (hS : S ∉ [lex, d, sio, dx, pb, fs]) (hx : x.length ≤ 10000) :
    ∀ {cs' : List Nat} {gs : List (List Nat)}, Toks cs' gs → ∀ (s : Shared) (tc tt tp : Tok) (p : Nat) (vs : List Value) (ns : List Str) (n : Nat), x.cps.toList.drop p = cs' → p ≤ x.length → vs.length + gs.length ≤ 1000 → StrsAre vs ns →
      Fr h₀ L s.heap m → News h₀ L s.heap (lexLed w.params k v k2 lex d sio dx pb fs x t (.str (Str.ofString " ") tc) tt p tp ++ [(S, listOf vs.toArray n)]) →
      (∀ vs' n' h' tk', StrsAre vs' (ns ++ gs.map fun g => Str.mk g.toArray) → Fr base L h' m → (h'.get? S = some (listOf vs'.toArray n') ∧ S ≠ L ∧ base.get? S = none) → h₀.UpToSlots h' → R (.ok (.ret .none)) { s with heap := h', toks := tk' }) →
      codeAny (model prog w) A1 (.builtin "list.extend.loop" ⟨[.ref S, .ref lex, .none], []⟩) R s := by
  have push : ∀ {h : Heap} {st : Value} {tt : Tok} {p : Nat} {tp : Tok} {vs : List Value} {n : Nat} (y : Str) (ty : Tok), Fr h₀ L h m → News h₀ L h (lexLed w.params k v k2 lex d sio dx pb fs x t st tt p tp ++ [(S, listOf vs.toArray n)]) →
      Fr h₀ L (h.update S (Obj.mapSeq (·.push (Value.str y ty)))) m ∧ News h₀ L (h.update S (Obj.mapSeq (·.push (Value.str y ty)))) (lexLed w.params k v k2 lex d sio dx pb fs x t st tt p tp ++ [(S, listOf (vs ++ [Value.str y ty]).toArray (n + 1))]) := by
    intro h st tt p tp vs n y ty F N
    have zS := N (S, listOf vs.toArray n) (List.mem_append_right _ (.head _))
    refine ⟨F.change (Heap.SameBut.update ..) zS.2.1 zS.2.2, fun q hq => ?_⟩
    rcases List.mem_append.mp hq with hq | hq
    · have zq := N q (List.mem_append_left _ hq)
      refine ⟨(Heap.get?_update_other _ _ (fun e : S = q.1 => hS (e ▸ ?_))).trans zq.1, zq.2⟩
      have : q.1 ∈ (lexLed w.params k v k2 lex d sio dx pb fs x t st tt p tp).map (·.1) := List.mem_map_of_mem hq
      exact this
    · rw [List.mem_singleton.mp hq]
      refine ⟨?_, zS.2⟩
      rw [Heap.get?_update_self _ zS.1 rfl]
      show some (Obj.mapSeq _ (listOf vs.toArray n)) = some (listOf (vs ++ [Value.str y ty]).toArray (n + 1))
      rw [← List.push_toArray]
      have e : ((vs.toArray.push (Value.str y ty)).size == vs.toArray.size) = false := by rw [Array.size_push]; simp
      simp only [Obj.mapSeq, e, Bool.false_eq_true, if_false]
  intro cs' gs ht
  induction ht with
  | @last cs' g hr =>
    intro s tc tt tp p vs ns n hd hp hz hv Fs N hR
    subst hd
    simp only [List.length_cons, List.length_nil] at hz
    refine codeAny_builtin F.entry_extend_loop ?_
    rw [Around.under_plainId F.plain_extend_loop _]
    show wpAny _ A1.in1 (pyNext (.ref lex) >>= _) _ _ s
    rw [hA1]
    refine wpAny_bind (pynext_tok (k := k) (v := v) (k2 := k2) (t := t) (tp := tp) B Fs X T hk h1 h2 N hne hpb hfs hS hx hp hr fun p9 tp9 st9 tt9 t9 h9 tk9 hp9 hd9 hs9 F9 N9 => ?_)
    have zS := (N9 (S, listOf vs.toArray n) (List.mem_append_right _ (.head _))).1
    obtain ⟨F10, N10⟩ := push (Str.mk g.toArray) t9 F9 N9
    show wpAny _ _ (updateSeq S (·.push (Value.str (Str.mk g.toArray) t9)) >>= _) _ _ _
    refine wpAny_bind (wpAny_updateSeq zS rfl (wpAny_pure ⟨plainId_quiet F.plain_extend_loop _, ?_⟩) (hz := by rw [sizeLine_eq]; simp only [List.size_toArray]; omega))
    obtain rfl : st9 = .none := hs9
    refine codeAny_builtin F.entry_extend_loop ?_
    rw [Around.under_plainId F.plain_extend_loop _]
    show wpAny _ A1.in1 (pyNext (.ref lex) >>= _) _ _ _
    rw [hA1]
    have hpx : x.length ≤ p9 := by
      have := congrArg List.length hd9
      rw [List.length_drop, Array.length_toList] at this
      simp only [List.length_nil] at this
      show x.cps.size ≤ p9
      omega
    refine wpAny_bind (pynext_end (k := k) (v := v) (k2 := k2) (t := t) (tp := tp9) B F10 X T hk h1 h2 hab N10 hne hpb hfs hS hx hp9 hpx fun h11 tk11 F11 S11 U11 => ?_)
    refine wpAny_pure ?_
    exact hR _ _ _ _ (StrsAre.append' hv (.cons _ _ .nil)) F11 S11 U11
  | @more cs' g rest gs hr ht ih =>
    intro s tc tt tp p vs ns n hd hp hz hv Fs N hR
    subst hd
    simp only [List.length_cons] at hz
    refine codeAny_builtin F.entry_extend_loop ?_
    rw [Around.under_plainId F.plain_extend_loop _]
    show wpAny _ A1.in1 (pyNext (.ref lex) >>= _) _ _ s
    rw [hA1]
    refine wpAny_bind (pynext_tok (k := k) (v := v) (k2 := k2) (t := t) (tp := tp) B Fs X T hk h1 h2 N hne hpb hfs hS hx hp hr fun p9 tp9 st9 tt9 t9 h9 tk9 hp9 hd9 hs9 F9 N9 => ?_)
    have zS := (N9 (S, listOf vs.toArray n) (List.mem_append_right _ (.head _))).1
    obtain ⟨F10, N10⟩ := push (Str.mk g.toArray) t9 F9 N9
    show wpAny _ _ (updateSeq S (·.push (Value.str (Str.mk g.toArray) t9)) >>= _) _ _ _
    refine wpAny_bind (wpAny_updateSeq zS rfl (wpAny_pure ⟨plainId_quiet F.plain_extend_loop _, ?_⟩) (hz := by rw [sizeLine_eq]; simp only [List.size_toArray]; omega))
    obtain ⟨t10, rfl⟩ := hs9
    refine ih _ _ _ _ _ _ (ns ++ [Str.mk g.toArray]) _ hd9 hp9 (by simp only [List.length_append, List.length_cons, List.length_nil]; omega) (StrsAre.append' hv (.cons _ _ .nil)) F10 N10 fun vs' n' h' tk' hv' F11 S11 U11 => ?_
    refine hR vs' n' h' tk' ?_ F11 S11 U11
    rw [List.append_assoc] at hv'
    exact hv'
theorem upd_own {g h : Heap} {L : Addr} {m : Str → Option Value} {st : Value} {tt : Tok} {p : Nat} {tp : Tok} {its : Array Value} {n : Nat} (hS : S ∉ [lex, d, sio, dx, pb, fs]) (f : Array Value → Array Value)
    (F : Fr g L h m) (N : News g L h (lexLed w.params k v k2 lex d sio dx pb fs x t st tt p tp ++ [(S, listOf its n)])) :
    ∃ n', Fr g L (h.update S (Obj.mapSeq f)) m ∧ News g L (h.update S (Obj.mapSeq f)) (lexLed w.params k v k2 lex d sio dx pb fs x t st tt p tp ++ [(S, listOf (f its) n')]) := by
  have zS := N (S, listOf its n) (List.mem_append_right _ (.head _))
  refine ⟨if (f its).size == its.size then n else n + 1, F.change (Heap.SameBut.update ..) zS.2.1 zS.2.2, fun q hq => ?_⟩
  rcases List.mem_append.mp hq with hq | hq
  · have zq := N q (List.mem_append_left _ hq)
    refine ⟨(Heap.get?_update_other _ _ (fun e : S = q.1 => hS (e ▸ ?_))).trans zq.1, zq.2⟩
    have : q.1 ∈ (lexLed w.params k v k2 lex d sio dx pb fs x t st tt p tp).map (·.1) := List.mem_map_of_mem hq
    exact this
  · rw [List.mem_singleton.mp hq]
    refine ⟨?_, zS.2⟩
    rw [Heap.get?_update_self _ zS.1 rfl]
    rfl
/-- list(lex) -/
theorem list_own {s : Shared} {Q E : Value → Shared → Prop} {gs : List (List Nat)} {tc tt tp : Tok} {p : Nat}
    (B : Below A₀ base outer h₀) (Ff : Fr h₀ L s.heap m) (X : (tKf w.params).In h₀) (T : Top topProg loose mean mg mb h₀) (hk : cs.kind = .function) (h1 : dp + 8 < 1000) (h2 : un + 2 + 10 * 8 + 1000 < 9900) (hab : base.objs.size ≤ L)
    (N : News h₀ L s.heap (lexLed w.params k v k2 lex d sio dx pb fs x t (.str (Str.ofString " ") tc) tt p tp))
    (hne : @Ne Nat lex d ∧ @Ne Nat lex sio ∧ @Ne Nat lex dx ∧ @Ne Nat d sio ∧ @Ne Nat d dx ∧ @Ne Nat sio dx) (hpb : pb ∉ [lex, d, sio, dx]) (hfs : fs ∉ [lex, d, sio, dx]) (hx : x.length ≤ 10000)
    (ht : Toks (x.cps.toList.drop p) gs) (hp : p ≤ x.length) (hz : gs.length ≤ 1000)
    (hQ : ∀ S vs' n' h' tk', StrsAre vs' (gs.map fun g => Str.mk g.toArray) → Fr base L h' m → s.heap.get? S = none → h'.get? S = some (listOf vs'.toArray n') → S ≠ L → base.get? S = none → h₀.UpToSlots h' → Q (.ref S) { s with heap := h', toks := tk' }) :
    wpAny (model prog w) (ktrTop dp un gd cn cs L a ccd cl outer) (call (.type "list") [.ref lex]) Q E s := by
  have kp : Kp s.heap (s.heap.push { cls := .type "list", data := .seq #[] }) := fun b o e => Heap.get?_push_of_some _ e
  have en : s.heap.get? s.heap.objs.size = none := Heap.get?_none_of_le (Nat.le_refl _)
  have hSl : ∀ q ∈ lexLed w.params k v k2 lex d sio dx pb fs x t (.str (Str.ofString " ") tc) tt p tp, @Ne Nat q.1 s.heap.objs.size := fun q hq => Nat.ne_of_lt (Heap.lt_size (N q hq).1)
  have hS : s.heap.objs.size ∉ [lex, d, sio, dx, pb, fs] := fun hm => by
    simp only [List.mem_cons, List.not_mem_nil, or_false] at hm
    rcases hm with e | e | e | e | e | e
    · exact hSl _ (.head _) e.symm
    · exact hSl _ (.tail _ (.head _)) e.symm
    · exact hSl _ (.tail _ (.tail _ (.head _))) e.symm
    · exact hSl _ (.tail _ (.tail _ (.tail _ (.head _)))) e.symm
    · exact hSl _ (.tail _ (.tail _ (.tail _ (.tail _ (.head _))))) e.symm
    · exact hSl _ (.tail _ (.tail _ (.tail _ (.tail _ (.tail _ (.head _)))))) e.symm
  have hSx : (s.heap.objs.size == lex) = false := by rw [beq_eq_false_iff_ne]; exact (hSl _ (.head _)).symm
  refine callType_codes (Q₁ := fun obj s₁ => obj = .ref s.heap.objs.size ∧ s₁ = { s with heap := s.heap.push { cls := .type "list", data := .seq #[] } }) F.called_list (F.typeCall_list_1 _) F.entry_list_init
    (code_list_new _ ⟨rfl, rfl⟩) fun obj s₁ h₁ => ?_
  obtain ⟨rfl, rfl⟩ := h₁
  generalize hS0 : s.heap.objs.size = S at *
  have hS1 : (s.heap.push { cls := .type "list", data := .seq #[] }).get? S = some { cls := .type "list", data := .seq #[] } := hS0 ▸ Heap.get?_push_size _ rfl
  have F1 := Fr.keeps Ff kp
  have N1 := news_more Ff N kp en hS1
  have N1' : News h₀ L (s.heap.push { cls := .type "list", data := .seq #[] }) (lexLed w.params k v k2 lex d sio dx pb fs x t (.str (Str.ofString " ") tc) tt p tp ++ [(S, listOf #[] 0)]) := fun q hq => by
    rcases List.mem_append.mp hq with hq | hq
    · exact N1 q (.tail _ hq)
    · exact N1 q (List.mem_singleton.mp hq ▸ .head _)
  refine ⟨⟨_, hS1, rfl⟩, F.args_list_init_2 _ _, ?_⟩
  show wpAny _ _ (do let old ← Builtin.List.listItems (.ref S); Builtin.List.listUpdate (.ref S) (fun _ => #[]); letGo old.toList.reverse; Builtin.List.listExtendWith (.ref S) (.ref lex) .none) _ _ _
  refine wpAny_bind ?_
  unfold Builtin.List.listItems
  refine wpAny_bind (wpAny_seqItems hS1 rfl (wpAny_pure ?_))
  show wpAny _ _ (updateSeq S (fun _ => #[]) >>= fun _ => letGo (#[] : Array Value).toList.reverse >>= fun _ => Builtin.List.listExtendWith (.ref S) (.ref lex) .none) _ _ _
  refine wpAny_bind (wpAny_updateSeq hS1 rfl ?_)
  obtain ⟨n2, F2, N2⟩ := upd_own (w := w) hS (fun _ => (#[] : Array Value)) F1 N1'
  refine wpAny_bind (wpAny_letGo ?_)
  generalize Heap.update _ S (Obj.mapSeq fun _ => (#[] : Array Value)) = h2 at F2 N2
  have I2 : InstAt h2 lex (instObj 770 d) 770 (some (dictOf (lexEs w.params k v sio pb fs (.str (Str.ofString " ") tc) (.str (Str.ofString "") tt)) 19)) := by k_inst
  unfold Builtin.List.listExtendWith
  refine wpAny_bind (I2.type.here ?_)
  have e1 : Builtin.List.listSameRef (.ref S) (.ref lex) = false := hSx
  have e2 : (Value.ref 770 == Value.type "list") = false := rfl
  have e3 : (Value.ref 770 == Value.type "tuple") = false := rfl
  simp only [e1, e2, e3, Bool.or_false, Bool.false_eq_true, if_false]
  refine wpAny_bind (owit_iter (f := 760) F2 X I2 (by k_is) (by k_is) ?_)
  have N2s : News h₀ L h2 [(lex, instObj 770 d)] := news_one N2 (.head _)
  refine iter_spec ⟨dp, un + 2, gd, cn, cs, L, a, ccd, cl, outer, A₀, base, h₀, m, mean, mg, mb, rfl, B, F2, X, T, hk, by omega, by omega, N2s⟩ fun h3 tk3 kx3 hl3 => ?_
  obtain ⟨F3, N3⟩ : Fr h₀ L h3 m ∧ News h₀ L h3 (lexLed w.params k v k2 lex d sio dx pb fs x t (.str (Str.ofString " ") tc) tt p tp ++ [(S, listOf #[] n2)]) := by
    refine led_kx F2 N2 kx3 (fun b hb => by rw [List.mem_singleton.mp hb]; exact ⟨instObj 770 d, .head _⟩) fun q hq => ⟨?_, q.2, hq⟩
    by_cases e : q.1 = lex
    · have e2 := (N2 q hq).1
      rw [e, (N2 _ (.head _)).1] at e2
      rw [e, hl3]; exact e2
    · exact kx3 _ _ (by simpa using e) (N2 q hq).1
  have I3 : InstAt h3 lex (instObj 770 d) 770 (some (dictOf (lexEs w.params k v sio pb fs (.str (Str.ofString " ") tc) (.str (Str.ofString "") tt)) 19)) := by k_inst
  have X3 := X.keeps F3.keep
  refine owit_it (g := .ref 767) F3 X I3 (by k_is) ?_
  refine wpAny_bind (wpAny_holding ?_)
  unfold Builtin.List.listLengthHint
  refine wpAny_bind (wpAny_bind (I3.type.here ((looks_findIn (r := none) X3 (by k_is)).here ?_)))
  refine wpAny_bind (wpAny_bind (I3.type.here ((looks_findIn (r := none) X3 (by k_is)).here ?_)))
  refine wpAny_pure ?_
  show wpAny _ _ (rule "list.extend.makes-room" >>= fun _ => Builtin.List.listTouch (.ref S) >>= fun _ =>
    again (.builtin "list.extend.loop" ⟨[.ref S, .ref lex, .none], []⟩)) _ _ _
  refine wpAny_bind (wpAny_rule ?_)
  refine wpAny_bind ?_
  show wpAny _ _ (updateSeq S (·.push .none) >>= fun _ => updateSeq S (·.pop)) _ _ _
  have zS3 := (N3 (S, listOf #[] n2) (List.mem_append_right _ (.head _))).1
  refine wpAny_bind (wpAny_updateSeq zS3 rfl ?_)
  obtain ⟨n4, F4, N4⟩ := upd_own (w := w) hS (fun a => a.push Value.none) F3 N3
  generalize Heap.update _ S (Obj.mapSeq fun a => a.push Value.none) = h4 at F4 N4
  have zS4 := (N4 (S, listOf _ n4) (List.mem_append_right _ (.head _))).1
  refine wpAny_updateSeq (hz := by seq_fits) zS4 rfl ?_
  obtain ⟨n5, F5, N5⟩ := upd_own (w := w) hS (fun a => a.pop) F4 N4
  generalize Heap.update _ S (Obj.mapSeq fun a => a.pop) = h5 at F5 N5
  refine wpAny_pure ⟨plainId_quiet F.plain_extend_loop _, ?_⟩
  have N5' : News h₀ L h5 (lexLed w.params k v k2 lex d sio dx pb fs x t (.str (Str.ofString " ") tc) tt p tp ++ [(S, listOf ([] : List Value).toArray n5)]) := N5
  refine loop_own (A1 := (ktrTop dp un gd cn cs L a ccd cl outer).in1) (un := un + 2) rfl B X T hk h1 (by omega) hab hne hpb hfs hS hx ht _ _ _ _ _ [] [] n5 rfl hp (by simpa using hz) .nil F5 N5' fun vs' n' h' tk' hv' F6 S6 U6 => ?_
  exact ⟨rfl, hQ S vs' n' h' tk' hv' F6 en S6.1 S6.2.1 S6.2.2 U6⟩
end
end
section
section
variable {w : World} {A : Around} {s : Shared} {K : Frag} {L : Addr} {h₀ : Heap} {m mg mb : Str → Option Value} {news : List (Addr × Obj)} {p : Program} {loose : List Str} {mean : ExcName → Option Value}
/-- a call from the bottom frame of a def in which an exception may pass: the ground without the caller's frame lies below the one with it -/
theorem code_defH {env : Env} {R : Result → Shared → Prop} {name qual : Str} {params : Arguments} {body : List Stmt} {scope : Scope} {dV kV doc pm cdv ct oc : Value} {an od : Option Addr} {osl : Array (Option Value)} {f : Addr} {args : Args} {binds : List (Str × Value)}
    (F : Fr h₀ L s.heap m) (X₀ : K.In h₀) (N : News h₀ L s.heap news) (T : Top p loose mean mg mb h₀) (hA : A.frames = some [env]) (hf : env.frame = some L) (hke : env.scope.kind = .function)
    (ho : K.lookup f = some ⟨oc, od, .func (fnOf name qual params body scope dV kV doc pm an cdv ct), osl⟩) (hcd : codeIn K cdv qual = true) (hroom : A.depth < recursionLimit)
    (hbind : BindsTo s (fnOf name qual params body scope dV kV doc pm an cdv ct) args binds) (hloc : ∀ y ∈ binds, scope.names.lookup y.1 = some .local)
    (h : ∀ g g₁ L' oL h₁, GSub s.heap g₁ (L :: news.map (·.1)) → TI.Caller h₀ L m oL → g.get? L = some oL → s.heap.get? L = some oL → (∀ p ∈ news, @LT.lt Nat _ p.1 L') → @LT.lt Nat _ L L' → (∀ p ∈ news, @Ne Nat p.1 L) → Kp h₀ g₁ → g₁.objs.size ≤ L' →
      Fr g L' h₁ (fun y => binds.reverse.lookup y) → News g L' h₁ news → Below A g₁ [env] g → K.In g → Top p loose mean mg mb g → 
      wpAny (model Mine.prog w) (A.deeper (envOf qual scope L' f cdv)) (execs body (envOf qual scope L' f cdv))
        (fun fl s' => R (.ok (.ret (match fl with | .ret v => v | _ => .none))) s')
        (fun e s' => wpAny (model Mine.prog w) (A.deeper (envOf qual scope L' f cdv)) (leaving (envOf qual scope L' f cdv) e) (fun _ s'' => R (.error e) s'') (fun e' s'' => R (.error e') s'') s')
        { s with heap := h₁, toks := s.toks + binds.length })
    (hco : scope.isCoroutine = false) (hgen : scope.isGenerator = false) (hk : scope.kind = .function)
    (hcell : ∀ x ∈ scope.names, x.2 ≠ .cell) : codeAny (model Mine.prog w) A (.call (.ref f) args) R s := by
  obtain ⟨oL, es, ep, hL, hLd, hLk, hLf⟩ := id F.ns
  have hLt := Heap.lt_size hL
  have hL0 : h₀.get? L = none := Heap.get?_none_of_le F.above
  have st : Kp h₀ (hideAll s.heap (L :: news.map (·.1))) := fun b o e => hideAll_get _ (F.keep b o e) fun hm => by
    rcases List.mem_cons.mp hm with rfl | hm
    · rw [hL0] at e; cases e
    · obtain ⟨q, hq, rfl⟩ := List.mem_map.mp hm
      rw [(N q hq).2.2] at e; cases e
  have g1g : (hideAll s.heap (L :: news.map (·.1))).StaysIn (hideAll s.heap (news.map (·.1))) := fun b o e => hideAll_get _ (of_hideAll _ e) fun hm => by
    rw [hideAll_none _ (List.mem_cons_of_mem _ hm)] at e; cases e
  have nL : L ∉ news.map (·.1) := fun q => by
    obtain ⟨p, hp, e⟩ := List.mem_map.mp q
    exact (N p hp).2.1 e
  have gL := hideAll_get (news.map (·.1)) hL nL
  refine codeAny_call_def (fd := fnOf name qual params body scope dV kV doc pm an cdv ct) (body := body) (binds := binds) hroom ((X₀.keeps F.keep) _ _ ho) rfl (T.nolimit.keeps F.keep) (codeRec_of (X₀.keeps F.keep) hcd) rfl hbind hcell hloc (fun h₁ hns hk₁ => ?_) hco hgen hk
  refine h (hideAll s.heap (news.map (·.1))) (hideAll s.heap (L :: news.map (·.1))) s.heap.objs.size oL h₁ (fun b o e n => hideAll_get _ e n) ⟨fun h' sl e => ⟨_, es, ep, e, hLd, hLk, hLf⟩, ⟨es, ep, hLd⟩, F.above⟩
    gL hL (fun p hp => Heap.lt_size (N p hp).1) hLt (fun p hp => (N p hp).2.1) st (Nat.le_of_eq (hideAll_size _ _)) ⟨hns, fun b o e => hk₁ b o (of_hideAll _ e), Nat.le_of_eq (hideAll_size _ _)⟩ (fun p hp => ?_)
    ⟨hA, g1g, ⟨by rw [hke]; decide, ⟨L, oL, hf, hideAll_none _ (List.mem_cons_self), gL, fun vs q => by rw [hLd] at q; cases q⟩, trivial⟩⟩ (X₀.keeps fun b o e => g1g b o (st b o e)) (T.keeps fun b o e => g1g b o (st b o e))
  exact ⟨hk₁ _ _ (N p hp).1, Nat.ne_of_lt (Heap.lt_size (N p hp).1), hideAll_none _ (List.mem_map_of_mem hp)⟩
end
end
section
section
variable {M : Model} {A : Around} {E : Value → Shared → Prop} {s : Shared} {env : Env} {c P : Addr} {ps : Array Value} {pos : Pos}
/-- the code object of a genexpr: made, or found in the table -/
theorem genCode_any {qual : Str} {scope : Scope} {Q : Value → Shared → Prop} (C : CodeHd s.heap c P) (hP : s.heap.get? P = some (tabObj ps)) (hok : TabOk pos ps) (hc : env.code = .ref c)
    (h : ∀ c' ps' h' tk, (∀ b o, b ≠ P → s.heap.get? b = some o → h'.get? b = some o) → s.heap.objs.size ≤ h'.objs.size → h'.get? P = some (tabObj ps') → TabOk pos ps' → Q (.ref c') { s with heap := h', toks := tk }) :
    wpAny M A (genexprCode env pos qual scope) Q E s := by
  obtain ⟨ht, hn | ⟨c', hn⟩⟩ := hok
  · refine wpAny_genexprCodeX hc (C.code hP ht) (C.tab hP) hn fun c' h' tk hx h1 h2 h3 _ h5 _ => ?_
    exact h c' _ h' tk hx (Nat.le_trans h1 (Nat.le_of_lt h2)) h5.2 (tabOk_snoc ht hn)
  · refine ex10 (C.code hP ht) ?_
    intro o vs file tf flags tg inF text tt op hZ134z
    refine and11 hZ134z ?_
    intro ho hd h11 h2 h7 h9 h10 hop hpd htr hne
    clear hZ134z
    unfold genexprCode codeAt
    rw [hc, if_neg (show ¬ ((Value.ref c == Value.none) = true) from Bool.false_ne_true)]
    refine wpAny_bind (wpAny_fieldsOf ho hd ?_)
    rw [h11]
    refine wpAny_bind (wpAny_fieldsOf hop hpd ?_)
    rw [hn]
    exact wpAny_pure (h c' ps s.heap s.toks (fun _ _ _ e => e) (Nat.le_refl _) hP ⟨ht, .inr ⟨_, hn⟩⟩)
end
section
variable {w : World} {A : Around} {E : Value → Shared → Prop} {s : Shared} {g : Heap} {L : Addr} {m mg mb : Str → Option Value} {p : Program} {loose : List Str} {mean : ExcName → Option Value}
theorem passing_all (n : Nat) : passing (fun _ => true) n 0 = List.range n := by
  unfold passing
  rw [List.drop_zero, List.filter_eq_self.mpr (fun _ _ => rfl)]
/-- (.. for x in l) over a list that stands in the ledger -/
theorem gen_list {env : Env} {elt iter : PySem.Expr} {x : Str} {px : Pos} {scope : Scope} {cl : List (Str × Addr)} {pos : Pos} {Q : Value → Shared → Prop} {c P l : Addr} {ps : Array Value} {vs : List Value} {n : Nat} (fF : Nat → Value → Prop)
    (F : Fr g L s.heap m) (N : News g L s.heap [(P, tabObj ps), (l, listOf vs.toArray n)]) (hPl : @Ne Nat P l) (T : Top p loose mean mg mb g) (C : CodeHd g c P) (hc : env.code = .ref c) (hg : env.globals = mainGlobals) (hok : TabOk pos ps)
    (hh : A.handled = none) (hco : scope.isCoroutine = false) (hclos : closureFor scope env = pure cl) (hcell : ∀ y ∈ scope.names, y.2 ≠ .cell) (h0 : scope.names.lookup (".0" : Str) = some NameKind.local)
    (hx : scope.names.lookup x = some .local) (hkind : scope.kind = .function) (hroom : A.depth < recursionLimit) (hb : AllBare s.gens)
    (hiter : wpAny (model Mine.prog w) A (eval iter env) (fun xv s₁ => xv = .ref l ∧ s₁ = s) E s)
    (hq : ∀ (A' : Around) E' i v (s₂ : Shared) m₂ Cc code, A'.handled = none → A'.depth ≤ A.depth + 1 → vs[i]? = some v → s₂.heap.Ns Cc m₂ → m₂ x = some v → g.objs.size ≤ Cc → (∀ b o, g.get? b = some o → s₂.heap.get? b = some o) →
      wpAny (model Mine.prog w) A' (eval elt (genEnv scope cl Cc code builtinsNs env)) (fun y s₃ => fF i y ∧ Keeps s₂ s₃) E' s₂)
    (hQ : ∀ a ps' (s₅ : Shared), AllBare s₅.gens → s₅.os = s.os → Kx [P] s.heap s₅.heap → s.heap.objs.size ≤ s₅.heap.objs.size → s₅.heap.get? P = some (tabObj ps') → TabOk pos ps' → Gen Mine.prog w A (s.heap.objs.size - 1) a (List.range vs.length).length (fun j y => ∃ i, (List.range vs.length)[j]? = some i ∧ fF i y) s₅ → Q (.ref a) s₅)
    (hs : ∀ x, genFold iter env x = pure x) :
    wpAny (model Mine.prog w) A (eval (.GeneratorExp elt [⟨.Name x px, iter, [], 0⟩] scope pos) env) Q E s := by
  have zP := N (P, tabObj ps) (.head _)
  have zl := N (l, listOf vs.toArray n) (.tail _ (.head _))
  have hpos : 0 < s.heap.objs.size := Nat.lt_of_le_of_lt (Nat.zero_le _) (Heap.lt_size zP.1)
  refine wpAny_GeneratorExp_walksQD hh hco hclos hcell h0 hx hkind hroom (wpAny_mono hiter (fun xv s₁ h₁ => ?_) fun _ _ e => e) hs
  obtain ⟨rfl, rfl⟩ := h₁
  have hl : s₁.heap.IsList l vs.toArray := ⟨_, zl.1, rfl, n, rfl⟩
  have hlt : l < s₁.heap.objs.size := Heap.lt_size zl.1
  have hPlt : P < s₁.heap.objs.size := Heap.lt_size zP.1
  refine wpAny_pyIter_list hl ?_
  have k1 : ∀ b o, s₁.heap.get? b = some o → (s₁.heap.push { cls := .type "list_iterator", data := .fields #[.ref l, .int 0 0] }).get? b = some o := fun _ _ e => Heap.get?_push_of_some _ e
  have F1 := Fr.keeps F k1
  have zI : (s₁.heap.push { cls := .type "list_iterator", data := .fields #[.ref l, .int 0 0] }).get? s₁.heap.objs.size = some { cls := .type "list_iterator", data := .fields #[.ref l, .int 0 0] } := Heap.get?_push_size _ rfl
  have sz1 : (s₁.heap.push { cls := .type "list_iterator", data := .fields #[.ref l, .int 0 0] }).objs.size = s₁.heap.objs.size + 1 := Heap.size_push _ _
  refine ⟨T.nolimit.keeps F1.keep, ?_⟩
  refine genCode_any (C.keeps F1.keep) (k1 _ _ zP.1) hok hc fun c' ps' h3 tk3 k3 sz3 hP3 hok3 => ?_
  dsimp only at k3 sz3
  have k13 : ∀ b o, b ≠ P → s₁.heap.get? b = some o → h3.get? b = some o := fun b o hb e => k3 b o hb (k1 b o e)
  have gP : ∀ b o, g.get? b = some o → b ≠ P := fun b o e hb => by have := zP.2.2; dsimp only at this; rw [hb, this] at e; cases e
  have kg : ∀ b o, g.get? b = some o → h3.get? b = some o := fun b o e => k13 b o (gP b o e) (F.keep b o e)
  obtain ⟨bm, ob, b1, b2, b3, b4, b5, b6⟩ := T.bmain
  refine wpAny_builtinsFor (by rw [hg]; exact T.g.keeps kg) b1 b2 (kg _ _ b3) b4 b5 b6 ?_
  have e1 : vs.toArray.size = vs.length := by simp
  have hIP : s₁.heap.objs.size ≠ P := Nat.ne_of_gt hPlt
  have hlP : l ≠ P := fun e => hPl e.symm
  have hW : ∀ A' : Around, A'.handled = none → Walks Mine.prog w A' s₁.heap.objs.size [s₁.heap.objs.size, l] [s₁.heap.objs.size] vs.length (fun i v => vs[i]? = some v) (fun i h => h.IsListIter s₁.heap.objs.size l i ∧ h.IsList l vs.toArray) := fun A' hA => by
    have W := Walks.list (prog := Mine.prog) (w := w) hA s₁.heap.objs.size l (Nat.ne_of_lt hlt) vs.toArray
    rw [e1] at W
    simpa using W
  have sz13 : s₁.heap.objs.size + 1 ≤ h3.objs.size := sz1 ▸ sz3
  refine ⟨s₁.heap.objs.size, [s₁.heap.objs.size, l], [s₁.heap.objs.size], vs.length, _, _, fun _ => true, fF, rfl, hW, ⟨⟨_, k3 _ _ hIP zI, rfl, rfl⟩, ?_⟩, ?_, T.nolimit.keeps kg, ?_, ?_, ?_⟩
  · exact ⟨_, k13 _ _ hlP zl.1, rfl, n, rfl⟩
  · intro b hb
    simp only [List.mem_cons, List.not_mem_nil, or_false] at hb
    show b < h3.objs.size
    rcases hb with rfl | rfl
    · exact sz13
    · exact Nat.lt_of_lt_of_le (Nat.lt_succ_of_lt hlt) sz13
  · intro hm
    have hcs : cStatics < s₁.heap.objs.size := let ⟨_, hn, _⟩ := T.nolimit.keeps F.keep; hn.lt
    rw [List.mem_singleton.mp hm] at hcs
    exact Nat.lt_irrefl _ hcs
  · intro href hk
    have up : ∀ {s₂ : Shared}, (∀ b ∈ List.range h3.objs.size, b ∉ [s₁.heap.objs.size] → ∀ o, href.get? b = some o → s₂.heap.get? b = some o) → ∀ b o, g.get? b = some o → s₂.heap.get? b = some o := fun hs₂ b o e => by
      have e3 := kg b o e
      refine hs₂ b (List.mem_range.mpr (Heap.lt_size e3)) (fun hm => ?_) o (hk b o e3)
      have := Heap.lt_size (F.keep b o e)
      rw [List.mem_singleton.mp hm] at this
      exact Nat.lt_irrefl _ this
    refine ⟨fun A' E' i v s₂ m₂ hA hd hu hv hn hm hs₂ => ?_, fun A' E' i v s₂ m₂ hA hd hu hv _ hn hm hs₂ => ?_⟩
    · exact wpAny_pure ⟨rfl, _, _, rfl, fun _ _ e => e⟩
    · refine hq A' E' i v s₂ m₂ _ _ hA hd hv hn hm ?_ (up hs₂)
      show g.objs.size ≤ h3.objs.size
      exact Nat.le_trans (Nat.le_trans F.above (Nat.le_of_lt F.ns.lt)) (Nat.le_of_succ_le sz13)
  · intro a h5 tk5 gs hgs ha hsz5 k5 W hat
    dsimp only at ha hsz5 k5 W hat
    refine hQ a ps' _ (AllBare.push hb hgs) rfl (fun b o hb e => k5 _ _ (k13 b o (by simpa using hb) e)) ?_ (k5 _ _ hP3) hok3 ?_
    · show s₁.heap.objs.size ≤ h5.objs.size
      rw [hsz5]; exact Nat.le_of_lt (Nat.lt_succ_of_lt (Nat.lt_of_lt_of_le (Nat.lt_of_lt_of_le (Nat.lt_succ_self _) sz13) (Nat.le_of_lt ha)))
    · rw [← passing_all]
      refine ⟨_, _, _, _, W, hat, (fun i s' st => st.1.typeIs), List.mem_cons_self, ?_, ?_⟩
      · intro b hb
        show b < h5.objs.size
        rw [hsz5]
        rcases List.mem_cons.mp hb with rfl | hb
        · exact Nat.lt_succ_self _
        · rcases List.mem_cons.mp hb with rfl | hb
          · exact Nat.lt_succ_of_lt ha
          · exact Nat.lt_succ_of_lt (Nat.lt_trans (List.mem_range.mp hb) ha)
      · intro b hb
        rcases List.mem_cons.mp hb with rfl | hb
        · show s₁.heap.objs.size - 1 < h3.objs.size
          exact Nat.lt_of_lt_of_le (Nat.sub_lt hpos Nat.one_pos) (Nat.le_of_succ_le sz13)
        · rw [List.mem_singleton.mp hb]
          exact Nat.sub_lt hpos Nat.one_pos
end
end
section
open PySem.SeqAt
noncomputable def obj790 : Obj := { cls := .type "builtin_function_or_method", data := .fields #[.builtin "re.Pattern.search", .ref 87] }
section
variable {w : World} {A : Around} {E : Value → Shared → Prop} {s : Shared} {env : Env} {pos : Pos} {first : List Value} {Q : Value → Shared → Prop}
theorem callWith_S {e : PySem.Expr} {rest : List PySem.Expr} 
    (h : wpAny (model Mine.prog w) A (spliced (backTo pos (starEach (e :: rest) env))) (fun vs s₁ => (tKf w.params).In s₁.heap ∧ wpAny (model Mine.prog w) A (call (.ref 790) (first ++ vs)) Q E s₁) E s)
    (he : starEach (e :: rest) env = (false, eval e env) :: starEach rest env := by rfl) (hplain : (backTo pos (starEach rest env)).any (·.1) = false := by rfl) :
    wpAny (model Mine.prog w) A (callWith pos (.ref 790) first (backTo pos (starEach (e :: rest) env)) []) Q E s := by
  rw [he] at h ⊢
  refine callWith_of (P := fun h => (tKf w.params).In h) (by show ((false || (backTo pos (starEach rest env)).any (·.1)) || false) = false; rw [hplain]; rfl) (fun h X => ?_) (evalArgs_plain h)
  have X1 : h.get? 790 = some obj790 := X 790 _ (by kernel_rfl)
  exact ⟨.machine, .inr (.inl rfl), (Looks.ld (part := none) X1).andThen .now⟩
end
end
section
open PySem.SeqAt
section
variable {w : World} {A : Around} {s : Shared} {K : Frag} {p : Program} {loose : List Str} {mean : ExcName → Option Value} {mg mb : Str → Option Value}
/-- a def called from any ground: nothing is known of the frames -/
theorem code_defA {R : Result → Shared → Prop} {name qual : Str} {params : Arguments} {body : List Stmt} {scope : Scope} {dV kV doc pm cdv ct oc : Value} {an od : Option Addr} {osl : Array (Option Value)} {f : Addr} {args : Args} {binds : List (Str × Value)}
    (X₀ : K.In s.heap) (T : Top p loose mean mg mb s.heap)
    (ho : K.lookup f = some ⟨oc, od, .func (fnOf name qual params body scope dV kV doc pm an cdv ct), osl⟩) (hcd : codeIn K cdv qual = true) (hroom : A.depth < recursionLimit)
    (hbind : BindsTo s (fnOf name qual params body scope dV kV doc pm an cdv ct) args binds) (hloc : ∀ y ∈ binds, scope.names.lookup y.1 = some .local)
    (h : ∀ g L' h₁, g = s.heap → Fr g L' h₁ (fun y => binds.reverse.lookup y) → News g L' h₁ [] → K.In g → Top p loose mean mg mb g →
      wpAny (model Mine.prog w) (A.deeper (envOf qual scope L' f cdv)) (execs body (envOf qual scope L' f cdv))
        (fun fl s' => R (.ok (.ret (match fl with | .ret v => v | _ => .none))) s')
        (fun e s' => wpAny (model Mine.prog w) (A.deeper (envOf qual scope L' f cdv)) (leaving (envOf qual scope L' f cdv) e) (fun _ s'' => R (.error e) s'') (fun e' s'' => R (.error e') s'') s')
        { s with heap := h₁, toks := s.toks + binds.length })
    (hco : scope.isCoroutine = false) (hgen : scope.isGenerator = false) (hk : scope.kind = .function)
    (hcell : ∀ x ∈ scope.names, x.2 ≠ .cell) : codeAny (model Mine.prog w) A (.call (.ref f) args) R s := by
  refine codeAny_call_def (fd := fnX name qual params body scope [] dV kV doc pm an cdv ct) (body := body) (binds := binds) hroom (X₀ _ _ ho) rfl T.nolimit (codeRec_of X₀ hcd) rfl hbind hcell hloc (fun h₁ hns hk₁ => ?_) hco hgen hk
  exact h s.heap s.heap.objs.size h₁ rfl ⟨hns, fun b o e => hk₁ b o e, Nat.le_refl _⟩ .nil X₀ T
end
end
section
noncomputable def quoteS (x : Str) : Str := Str.ofString "'" ++ Txt.replace x (Str.ofString "'") (Str.ofString "'\"'\"'") ++ Str.ofString "'"
theorem quote_any {w : World} {A : Around} {s : Shared} {Q E : Value → Shared → Prop} {x : Str} {t : Tok} {mean : ExcName → Option Value} {mg mb : Str → Option Value} (hA : A.handled = none) (hroom : A.depth < recursionLimit) (KX : (tKf w.params).In s.heap) (T : Top topProg loose mean mg mb s.heap) (hx : x ∈ menu)
    (h : ∀ t' h' tk', Kp s.heap h' → Q (.str (quoteS x) t') { s with heap := h', toks := tk' }) :
    wpAny (model prog w) A (call (.ref 797) [.str x t]) Q E s := by
  obtain ⟨hd0, dp, fr, gd, un⟩ := A
  have hA : hd0 = none := hA
  subst hA
  have hx1 : x.length ≠ 0 := by have : (menu.all fun g => g.length != 0) = true := by decide +kernel
                                simpa using List.all_eq_true.mp this x hx
  have hx2 : x.length ≤ 10 := by have : (menu.all fun g => decide (g.length ≤ 10)) = true := by decide +kernel
                                 simpa using List.all_eq_true.mp this x hx
  have hrl : (Txt.replace x (Str.ofString "'") (Str.ofString "'\"'\"'")).length ≤ 50 := by
    have : (menu.all fun g => decide ((Txt.replace g (Str.ofString "'") (Str.ofString "'\"'\"'")).length ≤ 50)) = true := by decide +kernel
    simpa using List.all_eq_true.mp this x hx
  refine wpAny_call ?_
  k_dflt (refine' code_defA ?k3 ?k5 ?k6 ?k7 ?k8 ?k9 ?kB ?_ ?c2 ?c3 ?c4 ?c5; (case k3 => assumption); (case k5 => assumption); (case k6 => k_is); (case k7 => k_is); (case k8 => assumption); (case k9 => exact BindsTo.of_eq rfl); (case c5 => decide); (case kB => exact locs rfl); (case c2 => exact rfl); (case c3 => exact rfl); (case c4 => exact rfl); k_whole; intro _ _ _ _ _ _ _ _; (try dsimp only))
  rename_i hg9 _ _ _ _
  subst hg9
  k_fold
  (repeat' (first | (k_unfold; (try dsimp only)) | (k_end; wrow_close) | ((first | ((with_reducible show wpAny _ _ (callWith _ (Value.ref 790) _ _ _) _ _ _); refine callWith_S ?_) | ((with_reducible show wpAny _ _ (call (Value.ref 790) [Value.str _ _]) _ _ _); (with_reducible rename Fr _ _ _ _ => kF9); (with_reducible rename News _ _ _ _ => kN9); k_dflt (refine' search_spec ?k1z ?k2z ?_; (case k1z => assumption); (case k2z => exact PySem.W.Frag.In.keeps (by assumption) kF9.keep); k_whole); intro aS hS' tkS' kp9 kle9; (have F' := kF9.keeps kp9); (have N' := kN9.grown kp9); clear kF9 kN9; (try dsimp only at kle9)) | fail "none")) | walk1 | dsimp only | (leave1; walk_say "STEP leave1"; try dsimp only) | fail "no step"))
  · exact h _ _ _ (Fr.keep (by assumption))
  · exfalso
    simp_all
end
section
noncomputable abbrev posG : Pos := ⟨848, 20, 848, 57⟩
theorem quote_elt {w : World} {A : Around} {E : Value → Shared → Prop} {s : Shared} {g : Heap} {Cc : Addr} {m₂ mg mb : Str → Option Value} {mean : ExcName → Option Value} {scope : Scope} {cl : List (Str × Addr)} {code : Value} {env : Env} {x : Str} {t : Tok} {p1 p2 p3 : Pos}
    (hA : A.handled = none) (hroom : A.depth < recursionLimit) (X : (tKf w.params).In g) (T : Top topProg loose mean mg mb g) (hg : env.globals = mainGlobals) (hk : scope.kind = .function) (h1' : scope.names.lookup (Str.ofString "quote") = some .globalImplicit) (h2 : scope.names.lookup (Str.ofString "arg") = some .local)
    (kg : ∀ b o, g.get? b = some o → s.heap.get? b = some o) (hn : s.heap.Ns Cc m₂) (hm : m₂ (Str.ofString "arg") = some (.str x t)) (hab : g.objs.size ≤ Cc) (hx : x ∈ menu) :
    wpAny (model prog w) A (eval (PySem.Expr.Call (.Name (Str.ofString "quote") p1) [.Name (Str.ofString "arg") p2] [] p3) (genEnv scope cl Cc code builtinsNs env)) (fun y s₃ => (∃ u, y = .str (quoteS x) u) ∧ Keeps s s₃) E s := by
  have F : Fr g Cc s.heap m₂ := ⟨hn, kg, hab⟩
  refine Call_Name1 ?_ rfl
  k_dflt (refine nameG_K (v := .ref 797) F X (topRead_of T) (by k_is) ?_ hg hk h1' (by decide))
  refine callWith_K (e := PySem.Expr.Name (Str.ofString "arg") p2) (rest := []) X (by k_is) ?_
  refine spliced_more ?_
  refine ldVarG F hm ?_ hk h2 (by decide)
  refine spliced_none ?_
  refine ⟨X.keeps kg, ?_⟩
  refine quote_any hA hroom (X.keeps kg) (T.keeps kg) hx fun t' h' tk' kp => ?_
  exact ⟨⟨t', rfl⟩, h', tk', rfl, kp⟩
theorem strsAre_at {i : Nat} {v : Value} : ∀ {vs : List Value} {ns : List Str}, StrsAre vs ns → vs[i]? = some v → ∃ y t, v = .str y t ∧ ns[i]? = some y := by
  intro vs ns h
  induction h generalizing i with
  | nil => intro e; cases e
  | cons y t _ ih =>
    intro e
    cases i with
    | zero => cases e; exact ⟨y, t, rfl, rfl⟩
    | succ i => exact ih e
theorem map_getD {α β : Type} (f : α → β) (d : α) (l : List α) : (List.range l.length).map (fun j => f (l.getD j d)) = l.map f := by
  apply List.ext_getElem
  · simp
  · intro i h1 h2
    have h3 : i < l.length := by simpa using h2
    simp [List.getD_eq_getElem?_getD, h3]
theorem fold_le (sep : Str) (B : Nat) : ∀ (l : List Str) (a : Nat), (∀ y ∈ l, y.length ≤ B) → l.foldl (fun a y => a + y.length + sep.length) a ≤ a + l.length * (B + sep.length)
  | [], a, _ => by simp
  | y :: l, a, h => by
    have h1 := fold_le sep B l (a + y.length + sep.length) (fun z hz => h z (.tail _ hz))
    have h2 := h y (.head _)
    rw [List.foldl_cons, List.length_cons, Nat.succ_mul]
    omega
theorem joinOk_of {l : List Str} (h : ∀ y ∈ l, y.length ≤ 60) (hl : l.length ≤ 100) : JoinOk (Str.ofString " ") l = true := by
  unfold JoinOk PySem.Builtin.Str.tooLong
  have h1 := fold_le (Str.ofString " ") 60 l 0 h
  have h2 : (Str.ofString " ").length = 1 := by decide +kernel
  rw [h2] at h1
  rw [List.foldl_toArray, h2]
  have h3 : l.foldl (fun x1 x2 => x1 + x2.length + 1) 0 ≤ sizeLine := by rw [sizeLine_eq]; omega
  simp only [gt_iff_lt, Bool.not_eq_true', decide_eq_false_iff_not, Nat.not_lt]
  exact h3
theorem quoteS_le {x : Str} (hx : x ∈ menu) : (quoteS x).length ≤ 60 := by
  have : (menu.all fun g => decide ((quoteS g).length ≤ 60)) = true := by decide +kernel
  simpa using List.all_eq_true.mp this x hx
theorem news_pair {g h : Heap} {L a b : Addr} {o o2 : Obj} (h1 : h.get? a = some o) (h2 : a ≠ L ∧ g.get? a = none) (h3 : h.get? b = some o2) (h4 : b ≠ L ∧ g.get? b = none) : News g L h [(a, o), (b, o2)] := by
  intro q hq
  simp only [List.mem_cons, List.not_mem_nil, or_false] at hq
  rcases hq with rfl | rfl
  · exact ⟨h1, h2⟩
  · exact ⟨h3, h4⟩
theorem join_spec {w : World} {A : Around} {s : Shared} {Q E : Value → Shared → Prop} {l : Addr} {vs : List Value} {ns : List Str} {n : Nat} {ps : Array Value} (hc : CxN w A s.heap 4 [(784, tabObj ps), (l, listOf vs.toArray n)]) (hPl : @Ne Nat 784 l) (hok : TabOk posG ps) (hb : AllBare s.gens)
    (hv : StrsAre vs ns) (hm : ∀ x ∈ ns, x ∈ menu) (hz : ns.length ≤ 100)
    (hQ : ∀ (s' : Shared) t' ps', AllBare s'.gens → s'.os = s.os → Kx [784, l] s.heap s'.heap → s'.heap.get? 784 = some (tabObj ps') → s'.heap.get? l = some (listOf vs.toArray n) → TabOk posG ps' → Q (.str (Txt.join (Str.ofString " ") (ns.map quoteS)) t') s') :
    wpAny (model prog w) A (call (.ref 789) [.ref l]) Q E s := by
  obtain ⟨dp, un, gd, cn, cs, L, a, ccd, cl, outer, A₀, base, h₀, m, mean, mg, mb, rfl, B, F, X, T, hk, h1, h2, N⟩ := hc
  have hCode := codeHd_of_K (c := 788) (P := 784) X (by kernel_rfl)
  refine wpAny_call ?_
  k_dflt (refine' code_defG ?k1 ?k2 ?k3 ?k4 ?k5 ?kA ?kF ?kK ?k6 ?k7 ?k8 ?k9 ?kB ?_ ?c2 ?c3 ?c4 ?c5; (case kA => exact rfl); (case kF => exact rfl); (case kK => assumption); (case k1 => k_asm); (case k2 => k_asm); (case k3 => k_asm); (case k4 => k_asm); (case k5 => k_asm); (case k6 => k_is); (case k7 => k_is); (case k8 => exact room (by assumption)); (case k9 => first | exact BindsTo.of_eq rfl | exact binds_K (by k_in) rfl (by k_is) rfl rfl rfl); (case c5 => decide); (case kB => exact locs rfl); (case c2 => exact rfl); (case c3 => exact rfl); (case c4 => exact rfl); k_whole; intro _ _ _ _ _ _ _ _ _ _; (try dsimp only))
  k_fold
  repeat' ((fail_if_success (with_reducible show wpAny _ _ (eval (PySem.Expr.GeneratorExp _ _ _ _) _) _ _ _)); (first | (k_unfold; (try dsimp only)) | walk1 | (dsimp only; walk1)))
  (with_reducible rename Fr _ _ _ _ => Fq)
  (with_reducible rename News _ _ _ _ => Nq)
  (with_reducible rename Frag.In _ _ => Xq)
  (with_reducible rename Top _ _ _ _ _ _ => Tq)
  refine gen_list (fun i y => ∃ u, y = .str (quoteS (ns.getD i (Str.mk #[]))) u) Fq Nq hPl Tq (hCode.keeps (by assumption : Fr h₀ L _ m).keep) rfl rfl hok rfl rfl rfl ?c1 rfl rfl rfl ?c2 hb ?c3 ?c4 ?c5 ?c6
  case c1 => decide +kernel
  case c2 => show dp + 1 < 1000; omega
  case c3 =>
    k_dflt (refine' ld Fq ?a ?b; (case a => exact rfl); (case b => exact ⟨rfl, rfl⟩))
  case c6 => intro _; rfl
  case c4 =>
    intro A' E' i v s₂ m₂ Cc code hA hd hv2 hn hm2 hab kg
    obtain ⟨y, ty, rfl, hy⟩ := strsAre_at hv hv2
    change A'.depth ≤ dp + 1 + 1 at hd
    have e : ns.getD i (Str.mk #[]) = y := by rw [List.getD_eq_getElem?_getD, hy]; rfl
    rw [e]
    exact quote_elt hA (by show A'.depth < 1000; omega) Xq Tq rfl rfl rfl rfl kg hn hm2 hab (hm y (List.mem_of_getElem? hy))
  case c5 =>
    intro a ps' s₅ hb5 os5 kx5 sz5 hP5 hok5 X5
    dsimp only at kx5 sz5 X5
    refine spliced_none ?_
    have z7 := Nq (784, tabObj ps) (by k_mem)
    have zl := Nq (l, listOf vs.toArray n) (by k_mem)
    have F5 := fr_kxL Fq kx5 (fun b hb => List.mem_singleton.mp hb ▸ z7.2.2) (fun hb => z7.2.1 (List.mem_singleton.mp hb).symm)
    have hlt7 : (784 : Nat) < _ := Heap.lt_size z7.1
    have hltl : l < _ := Heap.lt_size zl.1
    have hltL := Fq.ns.lt
    have hl5 := kx5 l _ (by simpa using (Ne.symm hPl)) zl.1
    have hlen : vs.length = ns.length := hv.length
    have e1 : (List.range (List.range vs.length).length).map (fun j => quoteS (ns.getD j (Str.mk #[]))) = ns.map quoteS := by rw [List.length_range, hlen]; exact map_getD _ _ _
    refine join_rowsK F5 hb5 X5 (Nat.le_sub_one_of_lt hltL) (fun j => quoteS (ns.getD j (Str.mk #[]))) ?htx ?hok ?hQ ?hsz
    case htx =>
      intro j v hv2
      obtain ⟨i, hi, u, e⟩ := hv2
      have hij : i = j := by
        rw [List.getElem?_eq_some_iff] at hi
        obtain ⟨_, hi⟩ := hi
        simpa using hi.symm
      exact ⟨u, by rw [← hij]; exact e⟩
    case hok =>
      rw [e1]
      refine joinOk_of (fun y hy => ?_) (by rw [List.length_map]; exact hz)
      obtain ⟨z, hz2, rfl⟩ := List.mem_map.mp hy
      exact quoteS_le (hm z hz2)
    case hsz => rw [List.length_range, sizeLine_eq]; omega
    case hQ =>
      rw [e1]
      intro s' t' F6 hb6 os6 k6
      have h7 := k6 784 _ (Nat.le_sub_one_of_lt hlt7) hP5
      have h8 := k6 l _ (Nat.le_sub_one_of_lt hltl) hl5
      have N6 := news_pair (o := tabObj ps') (o2 := listOf vs.toArray n) h7 z7.2 h8 zl.2
      clear Fq Nq F5 X5
      k_steps
      (with_reducible rename GSub _ _ _ => Gq)
      exact hQ s' t' ps' hb6 (os6.trans os5) (fun b o hb e => F6.keep b o (Gq b o e (by simpa using hb))) h7 h8 hok5
end
section
theorem rd_quote {x : Str} (hx : x ∈ menu) : (∀ cs, rd ((quoteS x).cps.toList ++ 32 :: cs) 32 [] = some (x.cps.toList, cs, false)) ∧ rd (quoteS x).cps.toList 32 [] = some (x.cps.toList, [], true) := by
  simp only [menu, List.mem_cons, List.not_mem_nil, or_false] at hx
  rcases hx with rfl | rfl | rfl | rfl | rfl | rfl | rfl | rfl
  · have e1 : (quoteS (Str.ofString "a*")).cps.toList = [39, 97, 42, 39] := by decide +kernel
    have e2 : (Str.ofString "a*").cps.toList = [97, 42] := by decide +kernel
    rw [e1, e2]
    exact ⟨fun cs => rfl, rfl⟩
  · have e1 : (quoteS (Str.ofString "*b")).cps.toList = [39, 42, 98, 39] := by decide +kernel
    have e2 : (Str.ofString "*b").cps.toList = [42, 98] := by decide +kernel
    rw [e1, e2]
    exact ⟨fun cs => rfl, rfl⟩
  · have e1 : (quoteS (Str.ofString "?")).cps.toList = [39, 63, 39] := by decide +kernel
    have e2 : (Str.ofString "?").cps.toList = [63] := by decide +kernel
    rw [e1, e2]
    exact ⟨fun cs => rfl, rfl⟩
  · have e1 : (quoteS (Str.ofString "[!a]*")).cps.toList = [39, 91, 33, 97, 93, 42, 39] := by decide +kernel
    have e2 : (Str.ofString "[!a]*").cps.toList = [91, 33, 97, 93, 42] := by decide +kernel
    rw [e1, e2]
    exact ⟨fun cs => rfl, rfl⟩
  · have e1 : (quoteS (Str.ofString "* *")).cps.toList = [39, 42, 32, 42, 39] := by decide +kernel
    have e2 : (Str.ofString "* *").cps.toList = [42, 32, 42] := by decide +kernel
    rw [e1, e2]
    exact ⟨fun cs => rfl, rfl⟩
  · have e1 : (quoteS (Str.ofString "'*")).cps.toList = [39, 39, 34, 39, 34, 39, 42, 39] := by decide +kernel
    have e2 : (Str.ofString "'*").cps.toList = [39, 42] := by decide +kernel
    rw [e1, e2]
    exact ⟨fun cs => rfl, rfl⟩
  · have e1 : (quoteS (Str.ofString "??")).cps.toList = [39, 63, 63, 39] := by decide +kernel
    have e2 : (Str.ofString "??").cps.toList = [63, 63] := by decide +kernel
    rw [e1, e2]
    exact ⟨fun cs => rfl, rfl⟩
  · have e1 : (quoteS (Str.ofString "*")).cps.toList = [39, 42, 39] := by decide +kernel
    have e2 : (Str.ofString "*").cps.toList = [42] := by decide +kernel
    rw [e1, e2]
    exact ⟨fun cs => rfl, rfl⟩
theorem str_cps (x : Str) : Str.mk x.cps.toList.toArray = x := by cases x; rfl
theorem app_cps (x y : Str) : (x ++ y).cps.toList = x.cps.toList ++ y.cps.toList := by
  show (x.cps ++ y.cps).toList = _
  simp
theorem txt_join (l : List Str) (sep : Str) : Txt.join sep l = Str.join sep l := StrLaws.glued_eq_join _ _
theorem toks_join : ∀ (g : Str) (gs : List Str), g ∈ menu → (∀ x ∈ gs, x ∈ menu) → Toks (Txt.join (Str.ofString " ") ((g :: gs).map quoteS)).cps.toList ((g :: gs).map fun x => x.cps.toList)
  | g, [], hg, _ => by
    rw [txt_join]
    exact .last (rd_quote hg).2
  | g, g2 :: gs, hg, hgs => by
    have ih := toks_join g2 gs (hgs g2 (.head _)) (fun x hx => hgs x (.tail _ hx))
    have e : (Txt.join (Str.ofString " ") ((g :: g2 :: gs).map quoteS)).cps.toList = (quoteS g).cps.toList ++ 32 :: (Txt.join (Str.ofString " ") ((g2 :: gs).map quoteS)).cps.toList := by
      rw [txt_join, txt_join]
      show (quoteS g ++ Str.ofString " " ++ Str.join (Str.ofString " ") ((g2 :: gs).map quoteS)).cps.toList = _
      rw [app_cps, app_cps, show (Str.ofString " ").cps.toList = [32] from by decide +kernel, List.append_assoc]
      rfl
    rw [e]
    exact .more ((rd_quote hg).1 _) ih
theorem join_len : ∀ (gs : List Str), (∀ x ∈ gs, x ∈ menu) → (Txt.join (Str.ofString " ") (gs.map quoteS)).length ≤ gs.length * 61
  | [], _ => by decide +kernel
  | [g], h => by
    have := quoteS_le (h g (.head _))
    rw [txt_join]
    show (quoteS g).length ≤ _
    simp only [List.length_cons, List.length_nil]
    omega
  | g :: g2 :: gs, h => by
    have ih := join_len (g2 :: gs) (fun x hx => h x (.tail _ hx))
    have h1 := quoteS_le (h g (.head _))
    rw [txt_join] at ih ⊢
    show (quoteS g ++ Str.ofString " " ++ Str.join (Str.ofString " ") ((g2 :: gs).map quoteS)).cps.size ≤ _
    have e : (quoteS g ++ Str.ofString " " ++ Str.join (Str.ofString " ") ((g2 :: gs).map quoteS)).cps.size = (quoteS g).length + 1 + (Str.join (Str.ofString " ") ((g2 :: gs).map quoteS)).length := by
      rw [← Array.length_toList, app_cps, app_cps, List.length_append, List.length_append, Array.length_toList, Array.length_toList, Array.length_toList]
      rfl
    rw [e]
    simp only [List.length_cons] at ih ⊢
    omega
theorem back_cps (gs : List Str) : ((gs.map fun x => x.cps.toList).map fun g => Str.mk g.toArray) = gs := by
  rw [List.map_map]
  have : ((fun g => Str.mk (List.toArray g)) ∘ fun x : Str => x.cps.toList) = id := by funext x; exact str_cps x
  rw [this, List.map_id]
end
section
theorem ne_obj {g h : Heap} {L a b : Addr} {news : List (Addr × Obj)} {o o' : Obj} (N : News g L h news) (ha : (a, o) ∈ news) (hb : (b, o') ∈ news) (n : o ≠ o') : @Ne Nat a b := fun e => by
  have e1 := (N _ ha).1
  have e2 := (N _ hb).1
  rw [show ((a, o) : Addr × Obj).1 = ((b, o') : Addr × Obj).1 from e, e2] at e1
  exact n (Option.some.inj e1).symm
theorem inst_ne {c c' : Addr} {d d' : Addr} (h : @Ne Nat c c') : instObj c d ≠ instObj c' d' := fun e => h (Value.ref.inj (congrArg Obj.cls e))
theorem inst_dict {c d : Addr} {es : List DictEntry} {n : Nat} : instObj c d ≠ dictOf es n := fun e => by have := congrArg Obj.cls e; cases this
theorem dict_ne {es es' : List DictEntry} {n n' : Nat} (h : n ≠ n') : dictOf es n ≠ dictOf es' n' := fun e => by
  have := congrArg Obj.data e
  cases this
  exact h rfl
theorem dq_inst {c d : Addr} : dqObj ≠ instObj c d := fun e => by have := congrArg Obj.cls e; cases this
theorem dq_dict {es : List DictEntry} {n : Nat} : dqObj ≠ dictOf es n := fun e => by
  have := congrArg Obj.data e
  cases this
theorem led_of {P : Params} {g h : Heap} {L lex d sio dx pb fs C D : Addr} {oc od : Obj} {x : Str} {t : Tok} {k0 k1 k2 k3 k4 k5 k6 k7 k8 k9 k10 k11 k12 k13 k14 k15 k16 k17 k18 j0 j1 j2 v4 v5 v6 v8 v9 v10 v13 v14 v18 tc tt tp : Tok}
    (N : News g L h [(fs, dqObj), (pb, dqObj), (sio, instObj 635 dx), (dx, dictOf [ent P (Str.ofString "_StringIO__newline") j0 (.str (Str.ofString "\n") 996), ent P (Str.ofString "_StringIO__buf") j1 (.str x t), ent P (Str.ofString "_StringIO__pos") j2 (.int 0 tp)] 3), (D, od), (C, oc), (lex, instObj 770 d), (d, dictOf [ent P (Str.ofString "instream") k0 (.ref sio), ent P (Str.ofString "infile") k1 (.none), ent P (Str.ofString "posix") k2 (.bool true), ent P (Str.ofString "eof") k3 (.none), ent P (Str.ofString "commenters") k4 (.str (Str.ofString "") v4), ent P (Str.ofString "wordchars") k5 (.str (Str.ofString "abcdfeghijklmnopqrstuvwxyzABCDEFGHIJKLMNOPQRSTUVWXYZ0123456789_ßàáâãäåæçèéêëìíîïðñòóôõöøùúûüýþÿÀÁÂÃÄÅÆÇÈÉÊËÌÍÎÏÐÑÒÓÔÕÖØÙÚÛÜÝÞ") v5), ent P (Str.ofString "whitespace") k6 (.str (Str.ofString " \t\x0d\n") v6), ent P (Str.ofString "whitespace_split") k7 (.bool true), ent P (Str.ofString "quotes") k8 (.str (Str.ofString "'\"") v8), ent P (Str.ofString "escape") k9 (.str (Str.ofString "\\") v9), ent P (Str.ofString "escapedquotes") k10 (.str (Str.ofString "\"") v10), ent P (Str.ofString "state") k11 (.str (Str.ofString " ") tc), ent P (Str.ofString "pushback") k12 (.ref pb), ent P (Str.ofString "lineno") k13 (.int 1 v13), ent P (Str.ofString "debug") k14 (.int 0 v14), ent P (Str.ofString "token") k15 (.str (Str.ofString "") tt), ent P (Str.ofString "filestack") k16 (.ref fs), ent P (Str.ofString "source") k17 (.none), ent P (Str.ofString "_punctuation_chars") k18 (.str (Str.ofString "") v18)] 19)]) :
    (∃ k v k2, News g L h (lexLed P k v k2 lex d sio dx pb fs x t (.str (Str.ofString " ") tc) tt 0 tp)) ∧ (@Ne Nat lex d ∧ @Ne Nat lex sio ∧ @Ne Nat lex dx ∧ @Ne Nat d sio ∧ @Ne Nat d dx ∧ @Ne Nat sio dx) ∧ pb ∉ [lex, d, sio, dx] ∧ fs ∉ [lex, d, sio, dx] := by
  have mfs := N _ (.head _)
  have hlex : (lex, instObj 770 d) ∈ [(fs, dqObj), (pb, dqObj), (sio, instObj 635 dx), (dx, dictOf [ent P (Str.ofString "_StringIO__newline") j0 (.str (Str.ofString "\n") 996), ent P (Str.ofString "_StringIO__buf") j1 (.str x t), ent P (Str.ofString "_StringIO__pos") j2 (.int 0 tp)] 3), (D, od), (C, oc), (lex, instObj 770 d), (d, dictOf [ent P (Str.ofString "instream") k0 (.ref sio), ent P (Str.ofString "infile") k1 (.none), ent P (Str.ofString "posix") k2 (.bool true), ent P (Str.ofString "eof") k3 (.none), ent P (Str.ofString "commenters") k4 (.str (Str.ofString "") v4), ent P (Str.ofString "wordchars") k5 (.str (Str.ofString "abcdfeghijklmnopqrstuvwxyzABCDEFGHIJKLMNOPQRSTUVWXYZ0123456789_ßàáâãäåæçèéêëìíîïðñòóôõöøùúûüýþÿÀÁÂÃÄÅÆÇÈÉÊËÌÍÎÏÐÑÒÓÔÕÖØÙÚÛÜÝÞ") v5), ent P (Str.ofString "whitespace") k6 (.str (Str.ofString " \t\x0d\n") v6), ent P (Str.ofString "whitespace_split") k7 (.bool true), ent P (Str.ofString "quotes") k8 (.str (Str.ofString "'\"") v8), ent P (Str.ofString "escape") k9 (.str (Str.ofString "\\") v9), ent P (Str.ofString "escapedquotes") k10 (.str (Str.ofString "\"") v10), ent P (Str.ofString "state") k11 (.str (Str.ofString " ") tc), ent P (Str.ofString "pushback") k12 (.ref pb), ent P (Str.ofString "lineno") k13 (.int 1 v13), ent P (Str.ofString "debug") k14 (.int 0 v14), ent P (Str.ofString "token") k15 (.str (Str.ofString "") tt), ent P (Str.ofString "filestack") k16 (.ref fs), ent P (Str.ofString "source") k17 (.none), ent P (Str.ofString "_punctuation_chars") k18 (.str (Str.ofString "") v18)] 19)] := by k_mem
  have hd' := List.Mem.tail (fs, dqObj) (List.Mem.tail (pb, dqObj) (List.Mem.tail (sio, instObj 635 dx) (List.Mem.tail (dx, dictOf [ent P (Str.ofString "_StringIO__newline") j0 (.str (Str.ofString "\n") 996), ent P (Str.ofString "_StringIO__buf") j1 (.str x t), ent P (Str.ofString "_StringIO__pos") j2 (.int 0 tp)] 3) (List.Mem.tail (D, od) (List.Mem.tail (C, oc) (List.Mem.tail (lex, instObj 770 d) (List.Mem.head (as := []) (a := (d, dictOf [ent P (Str.ofString "instream") k0 (.ref sio), ent P (Str.ofString "infile") k1 (.none), ent P (Str.ofString "posix") k2 (.bool true), ent P (Str.ofString "eof") k3 (.none), ent P (Str.ofString "commenters") k4 (.str (Str.ofString "") v4), ent P (Str.ofString "wordchars") k5 (.str (Str.ofString "abcdfeghijklmnopqrstuvwxyzABCDEFGHIJKLMNOPQRSTUVWXYZ0123456789_ßàáâãäåæçèéêëìíîïðñòóôõöøùúûüýþÿÀÁÂÃÄÅÆÇÈÉÊËÌÍÎÏÐÑÒÓÔÕÖØÙÚÛÜÝÞ") v5), ent P (Str.ofString "whitespace") k6 (.str (Str.ofString " \t\x0d\n") v6), ent P (Str.ofString "whitespace_split") k7 (.bool true), ent P (Str.ofString "quotes") k8 (.str (Str.ofString "'\"") v8), ent P (Str.ofString "escape") k9 (.str (Str.ofString "\\") v9), ent P (Str.ofString "escapedquotes") k10 (.str (Str.ofString "\"") v10), ent P (Str.ofString "state") k11 (.str (Str.ofString " ") tc), ent P (Str.ofString "pushback") k12 (.ref pb), ent P (Str.ofString "lineno") k13 (.int 1 v13), ent P (Str.ofString "debug") k14 (.int 0 v14), ent P (Str.ofString "token") k15 (.str (Str.ofString "") tt), ent P (Str.ofString "filestack") k16 (.ref fs), ent P (Str.ofString "source") k17 (.none), ent P (Str.ofString "_punctuation_chars") k18 (.str (Str.ofString "") v18)] 19)))))))))
  have hsio : (sio, instObj 635 dx) ∈ [(fs, dqObj), (pb, dqObj), (sio, instObj 635 dx), (dx, dictOf [ent P (Str.ofString "_StringIO__newline") j0 (.str (Str.ofString "\n") 996), ent P (Str.ofString "_StringIO__buf") j1 (.str x t), ent P (Str.ofString "_StringIO__pos") j2 (.int 0 tp)] 3), (D, od), (C, oc), (lex, instObj 770 d), (d, dictOf [ent P (Str.ofString "instream") k0 (.ref sio), ent P (Str.ofString "infile") k1 (.none), ent P (Str.ofString "posix") k2 (.bool true), ent P (Str.ofString "eof") k3 (.none), ent P (Str.ofString "commenters") k4 (.str (Str.ofString "") v4), ent P (Str.ofString "wordchars") k5 (.str (Str.ofString "abcdfeghijklmnopqrstuvwxyzABCDEFGHIJKLMNOPQRSTUVWXYZ0123456789_ßàáâãäåæçèéêëìíîïðñòóôõöøùúûüýþÿÀÁÂÃÄÅÆÇÈÉÊËÌÍÎÏÐÑÒÓÔÕÖØÙÚÛÜÝÞ") v5), ent P (Str.ofString "whitespace") k6 (.str (Str.ofString " \t\x0d\n") v6), ent P (Str.ofString "whitespace_split") k7 (.bool true), ent P (Str.ofString "quotes") k8 (.str (Str.ofString "'\"") v8), ent P (Str.ofString "escape") k9 (.str (Str.ofString "\\") v9), ent P (Str.ofString "escapedquotes") k10 (.str (Str.ofString "\"") v10), ent P (Str.ofString "state") k11 (.str (Str.ofString " ") tc), ent P (Str.ofString "pushback") k12 (.ref pb), ent P (Str.ofString "lineno") k13 (.int 1 v13), ent P (Str.ofString "debug") k14 (.int 0 v14), ent P (Str.ofString "token") k15 (.str (Str.ofString "") tt), ent P (Str.ofString "filestack") k16 (.ref fs), ent P (Str.ofString "source") k17 (.none), ent P (Str.ofString "_punctuation_chars") k18 (.str (Str.ofString "") v18)] 19)] := .tail _ (.tail _ (.head _))
  have hdx := List.Mem.tail (fs, dqObj) (List.Mem.tail (pb, dqObj) (List.Mem.tail (sio, instObj 635 dx) (List.Mem.head (as := [(D, od), (C, oc), (lex, instObj 770 d), (d, dictOf [ent P (Str.ofString "instream") k0 (.ref sio), ent P (Str.ofString "infile") k1 (.none), ent P (Str.ofString "posix") k2 (.bool true), ent P (Str.ofString "eof") k3 (.none), ent P (Str.ofString "commenters") k4 (.str (Str.ofString "") v4), ent P (Str.ofString "wordchars") k5 (.str (Str.ofString "abcdfeghijklmnopqrstuvwxyzABCDEFGHIJKLMNOPQRSTUVWXYZ0123456789_ßàáâãäåæçèéêëìíîïðñòóôõöøùúûüýþÿÀÁÂÃÄÅÆÇÈÉÊËÌÍÎÏÐÑÒÓÔÕÖØÙÚÛÜÝÞ") v5), ent P (Str.ofString "whitespace") k6 (.str (Str.ofString " \t\x0d\n") v6), ent P (Str.ofString "whitespace_split") k7 (.bool true), ent P (Str.ofString "quotes") k8 (.str (Str.ofString "'\"") v8), ent P (Str.ofString "escape") k9 (.str (Str.ofString "\\") v9), ent P (Str.ofString "escapedquotes") k10 (.str (Str.ofString "\"") v10), ent P (Str.ofString "state") k11 (.str (Str.ofString " ") tc), ent P (Str.ofString "pushback") k12 (.ref pb), ent P (Str.ofString "lineno") k13 (.int 1 v13), ent P (Str.ofString "debug") k14 (.int 0 v14), ent P (Str.ofString "token") k15 (.str (Str.ofString "") tt), ent P (Str.ofString "filestack") k16 (.ref fs), ent P (Str.ofString "source") k17 (.none), ent P (Str.ofString "_punctuation_chars") k18 (.str (Str.ofString "") v18)] 19)]) (a := (dx, dictOf [ent P (Str.ofString "_StringIO__newline") j0 (.str (Str.ofString "\n") 996), ent P (Str.ofString "_StringIO__buf") j1 (.str x t), ent P (Str.ofString "_StringIO__pos") j2 (.int 0 tp)] 3)))))
  have hpb := List.Mem.tail (fs, dqObj) (List.Mem.head (as := [(sio, instObj 635 dx), (dx, dictOf [ent P (Str.ofString "_StringIO__newline") j0 (.str (Str.ofString "\n") 996), ent P (Str.ofString "_StringIO__buf") j1 (.str x t), ent P (Str.ofString "_StringIO__pos") j2 (.int 0 tp)] 3), (D, od), (C, oc), (lex, instObj 770 d), (d, dictOf [ent P (Str.ofString "instream") k0 (.ref sio), ent P (Str.ofString "infile") k1 (.none), ent P (Str.ofString "posix") k2 (.bool true), ent P (Str.ofString "eof") k3 (.none), ent P (Str.ofString "commenters") k4 (.str (Str.ofString "") v4), ent P (Str.ofString "wordchars") k5 (.str (Str.ofString "abcdfeghijklmnopqrstuvwxyzABCDEFGHIJKLMNOPQRSTUVWXYZ0123456789_ßàáâãäåæçèéêëìíîïðñòóôõöøùúûüýþÿÀÁÂÃÄÅÆÇÈÉÊËÌÍÎÏÐÑÒÓÔÕÖØÙÚÛÜÝÞ") v5), ent P (Str.ofString "whitespace") k6 (.str (Str.ofString " \t\x0d\n") v6), ent P (Str.ofString "whitespace_split") k7 (.bool true), ent P (Str.ofString "quotes") k8 (.str (Str.ofString "'\"") v8), ent P (Str.ofString "escape") k9 (.str (Str.ofString "\\") v9), ent P (Str.ofString "escapedquotes") k10 (.str (Str.ofString "\"") v10), ent P (Str.ofString "state") k11 (.str (Str.ofString " ") tc), ent P (Str.ofString "pushback") k12 (.ref pb), ent P (Str.ofString "lineno") k13 (.int 1 v13), ent P (Str.ofString "debug") k14 (.int 0 v14), ent P (Str.ofString "token") k15 (.str (Str.ofString "") tt), ent P (Str.ofString "filestack") k16 (.ref fs), ent P (Str.ofString "source") k17 (.none), ent P (Str.ofString "_punctuation_chars") k18 (.str (Str.ofString "") v18)] 19)]) (a := (pb, dqObj)))
  have hfs := List.Mem.head (as := [(pb, dqObj), (sio, instObj 635 dx), (dx, dictOf [ent P (Str.ofString "_StringIO__newline") j0 (.str (Str.ofString "\n") 996), ent P (Str.ofString "_StringIO__buf") j1 (.str x t), ent P (Str.ofString "_StringIO__pos") j2 (.int 0 tp)] 3), (D, od), (C, oc), (lex, instObj 770 d), (d, dictOf [ent P (Str.ofString "instream") k0 (.ref sio), ent P (Str.ofString "infile") k1 (.none), ent P (Str.ofString "posix") k2 (.bool true), ent P (Str.ofString "eof") k3 (.none), ent P (Str.ofString "commenters") k4 (.str (Str.ofString "") v4), ent P (Str.ofString "wordchars") k5 (.str (Str.ofString "abcdfeghijklmnopqrstuvwxyzABCDEFGHIJKLMNOPQRSTUVWXYZ0123456789_ßàáâãäåæçèéêëìíîïðñòóôõöøùúûüýþÿÀÁÂÃÄÅÆÇÈÉÊËÌÍÎÏÐÑÒÓÔÕÖØÙÚÛÜÝÞ") v5), ent P (Str.ofString "whitespace") k6 (.str (Str.ofString " \t\x0d\n") v6), ent P (Str.ofString "whitespace_split") k7 (.bool true), ent P (Str.ofString "quotes") k8 (.str (Str.ofString "'\"") v8), ent P (Str.ofString "escape") k9 (.str (Str.ofString "\\") v9), ent P (Str.ofString "escapedquotes") k10 (.str (Str.ofString "\"") v10), ent P (Str.ofString "state") k11 (.str (Str.ofString " ") tc), ent P (Str.ofString "pushback") k12 (.ref pb), ent P (Str.ofString "lineno") k13 (.int 1 v13), ent P (Str.ofString "debug") k14 (.int 0 v14), ent P (Str.ofString "token") k15 (.str (Str.ofString "") tt), ent P (Str.ofString "filestack") k16 (.ref fs), ent P (Str.ofString "source") k17 (.none), ent P (Str.ofString "_punctuation_chars") k18 (.str (Str.ofString "") v18)] 19)]) (a := (fs, dqObj))
  refine ⟨⟨fun i => [k0, k1, k2, k3, k4, k5, k6, k7, k8, k9, k10, k11, k12, k13, k14, k15, k16, k17, k18].getD i 0, fun i => [0, 0, 0, 0, v4, v5, v6, 0, v8, v9, v10, 0, 0, v13, v14, 0, 0, 0, v18].getD i 0, fun i => [j0, j1, j2].getD i 0, ?_⟩, ⟨ne_obj N hlex hd' inst_dict, ne_obj N hlex hsio (inst_ne (by decide)), ne_obj N hlex hdx inst_dict, (ne_obj N hsio hd' inst_dict).symm, ne_obj N hd' hdx (dict_ne (by decide)), ne_obj N hsio hdx inst_dict⟩, ?_, ?_⟩
  · intro q hq
    simp only [List.mem_cons, List.not_mem_nil, or_false] at hq
    rcases hq with rfl | rfl | rfl | rfl | rfl | rfl
    · exact N _ hlex
    · exact N _ hd'
    · exact N _ hsio
    · exact N _ hdx
    · exact N _ hpb
    · exact N _ hfs
  · intro hm
    simp only [List.mem_cons, List.not_mem_nil, or_false] at hm
    rcases hm with e | e | e | e
    · exact ne_obj N hpb hlex dq_inst e
    · exact ne_obj N hpb hd' dq_dict e
    · exact ne_obj N hpb hsio dq_inst e
    · exact ne_obj N hpb hdx dq_dict e
  · intro hm
    simp only [List.mem_cons, List.not_mem_nil, or_false] at hm
    rcases hm with e | e | e | e
    · exact ne_obj N hfs hlex dq_inst e
    · exact ne_obj N hfs hd' dq_dict e
    · exact ne_obj N hfs hsio dq_inst e
    · exact ne_obj N hfs hdx dq_dict e
end
section
theorem updF_at {d : Addr} {o o' : Obj} : ∀ {l : List (Addr × Obj)} {g : Obj → List (Addr × Obj)}, UpdF d o l g → Upd d o o' l (g o')
  | _, _, .head h => .head h
  | _, _, .tail h r => .tail h (updF_at r)
theorem set_dictM {w : World} {A : Around} {E : Value → Shared → Prop} {s : Shared} {K : Frag} {x C dx L : Addr} {h₀ : Heap} {m : Str → Option Value} {news : List (Addr × Obj)} {ox : Obj} {es es' : List DictEntry} {n n' : Nat} {name : Str} {v : Value} {Q : Unit → Shared → Prop} {g : Obj → List (Addr × Obj)}
    (F : Fr h₀ L s.heap m) (X₀ : K.In h₀) (N : News h₀ L s.heap news) (I : InstAt s.heap x ox C (some (dictOf es n))) (hd : ox.dict = some dx)
    (hs : findIn K (.ref C) "__setattr__" = some (some (.builtin "object.__setattr__"))) (hp : plainOver K C = true) (ht : takerIn K C name = some none) (hh : hasDictIn K C = true) (hl : (getL name es).isSome = true)
    (e : (putL name (PyData.keyHash w.params name) (.str name (s.toks + 1)) v es, putN name es n) = (es', n')) (U : UpdF dx (dictOf es n) news g) (hz : es'.length ≤ 1000)
    (h : ∀ h', let o' := dictOf es' n'; Fr h₀ L h' m → News h₀ L h' (g o') → Q () { s with heap := h', toks := s.toks + 2 }) :
    wpAny (model Mine.prog w) A (setAttr (.ref x) name v) Q E s :=
  set_dict F X₀ N I hd hs hp ht hh hl e (updF_at U) hz h
end
section
theorem split_spec {w : World} {s : Shared} {Q E : Value → Shared → Prop} {x : Str} {t : Tok} {gs : List (List Nat)} {dp un : Nat} {gd : Option (List Code)} {cn : Str} {cs : Scope} {L a : Addr} {ccd : Value} {cl : List (Str × Addr)} {h₀ : Heap} {m : Str → Option Value} {mean : ExcName → Option Value} {mg mb : Str → Option Value}
    (F : Fr h₀ L s.heap m) (X : (tKf w.params).In h₀) (T : Top topProg loose mean mg mb h₀) (hk : cs.kind = .function) (h1 : dp + 12 < 1000) (h2 : un + 200 + 1000 < 9900) (N : News h₀ L s.heap []) (hx : x.length ≤ 10000) (ht : Toks x.cps.toList gs) (hz : gs.length ≤ 1000)
    (h : ∀ S vs n h' tk', Fr h₀ L h' m → Kx [L] s.heap h' → s.heap.get? S = none → h'.get? S = some (listOf vs.toArray n) → StrsAre vs (gs.map fun g => Str.mk g.toArray) → Q (.ref S) { s with heap := h', toks := tk' }) :
    wpAny (model prog w) (ktrTop dp un gd cn cs L a ccd cl []) (call (.ref 782) [.str x t]) Q E s := by
  refine wpAny_call ?_
  k_dflt (refine' code_defH ?k1 ?k2 ?k3 ?k4 ?kA ?kF ?kK ?k6 ?k7 ?k8 ?k9 ?kB ?_ ?c2 ?c3 ?c4 ?c5; (case kA => exact rfl); (case kF => exact rfl); (case kK => assumption); (case k1 => k_asm); (case k2 => k_asm); (case k3 => k_asm); (case k4 => k_asm); (case k6 => k_is); (case k7 => k_is); (case k8 => exact room (by assumption)); (case k9 => first | exact BindsTo.of_eq rfl | exact binds_K (by k_in) rfl (by k_is) rfl rfl rfl); (case c5 => decide); (case kB => exact locs rfl); (case c2 => exact rfl); (case c3 => exact rfl); (case c4 => exact rfl); k_whole; intro _ _ _ _ _ _ _ _ _ _ _ _ _ _ _ _ _ _ _; (try dsimp only))
  k_fold
  (repeat' ((fail_if_success (with_reducible show wpAny _ _ (call (Value.ref 635) _) _ _ _)); (first | (k_unfold; (try dsimp only)) | ((first | ((with_reducible show wpAny _ _ (setAttr (Value.ref _) _ _) _ _ _); k_dflt (refine' set_dictM ?k1z ?k2z ?k3z ?k4z ?k5z ?k6z ?k7z ?k8z ?k9z ?k10z ?k11z ?k12z ?k13z ?_; (case k1z => k_asm); (case k2z => k_asm); (case k3z => k_asm); (case k4z => k_inst); (case k5z => exact rfl); (case k6z => k_is); (case k7z => k_is); (case k8z => k_is); (case k9z => k_is); (case k10z => k_get); (case k11z => k_put); (case k12z => k_updF); (case k13z => exact Nat.le_of_ble_eq_true rfl); k_whole; intro _ _ _ N'; (try dsimp only at N'); (try k_sweep))) | ((with_reducible show wpAny _ _ (call (Value.type _) []) _ _ _); (with_reducible rename Fr _ _ _ _ => kF9); (with_reducible rename News _ _ _ _ => kN9); k_dflt (refine' deque_K kF9 kN9 ?_; k_whole); intro x' h' tk' F' N' l1; (try simp only [GnNe, and_true] at l1); clear kF9 kN9) | ((with_reducible show wpAny _ _ (call (Value.builtin _) [Value.ref 635]) _ _ _); (with_reducible rename Fr _ _ _ _ => kF9); (with_reducible rename News _ _ _ _ => kN9); (with_reducible rename Frag.In _ _ => kX9); k_dflt (refine' objnew_K kF9 kN9 kX9 ?_; k_whole); intro x' dx' h' tk' F' N' l1 l2 l3; (try simp only [GnNe, and_true] at l1 l2); clear kF9 kN9) | fail "none")) | walk1 | dsimp only)))
  (with_reducible rename Fr _ _ _ _ => Fq)
  (with_reducible rename News _ _ _ _ => Nq)
  (with_reducible rename Frag.In _ _ => Xq)
  refine wpAny_call (make635 (PySem.W.Frag.In.keeps Xq Fq.keep) fun tk9 => ?_)
  k_enter
  (repeat' (first | (k_unfold; (try dsimp only)) | (k_end; wrow_close) | ((first | ((with_reducible show wpAny _ _ (setAttr (Value.ref _) _ _) _ _ _); k_dflt (refine' set_dictM ?k1z ?k2z ?k3z ?k4z ?k5z ?k6z ?k7z ?k8z ?k9z ?k10z ?k11z ?k12z ?k13z ?_; (case k1z => k_asm); (case k2z => k_asm); (case k3z => k_asm); (case k4z => k_inst); (case k5z => exact rfl); (case k6z => k_is); (case k7z => k_is); (case k8z => k_is); (case k9z => k_is); (case k10z => k_get); (case k11z => k_put); (case k12z => k_updF); (case k13z => exact Nat.le_of_ble_eq_true rfl); k_whole; intro _ _ _ N'; (try dsimp only at N'); (try k_sweep))) | ((with_reducible show wpAny _ _ (call (Value.type _) []) _ _ _); (with_reducible rename Fr _ _ _ _ => kF9); (with_reducible rename News _ _ _ _ => kN9); k_dflt (refine' deque_K kF9 kN9 ?_; k_whole); intro x' h' tk' F' N' l1; (try simp only [GnNe, and_true] at l1); clear kF9 kN9) | ((with_reducible show wpAny _ _ (call (Value.builtin _) [Value.ref 635]) _ _ _); (with_reducible rename Fr _ _ _ _ => kF9); (with_reducible rename News _ _ _ _ => kN9); (with_reducible rename Frag.In _ _ => kX9); k_dflt (refine' objnew_K kF9 kN9 kX9 ?_; k_whole); intro x' dx' h' tk' F' N' l1 l2 l3; (try simp only [GnNe, and_true] at l1 l2); clear kF9 kN9) | fail "none")) | walk1 | dsimp only | (leave1; walk_say "STEP leave1"; try dsimp only) | fail "no step"))
  (with_reducible rename Fr _ _ _ _ => Fq2)
  (with_reducible rename News _ _ _ _ => Nq2)
  (with_reducible rename Frag.In _ _ => Xq2)
  refine ⟨_, _, rfl, (Nq2 _ (.head _)).1, PySem.W.Frag.In.keeps Xq2 Fq2.keep, ?_⟩
  (try dsimp only at Fq2 Nq2)
  k_enter
  (repeat' (first | (k_unfold; (try dsimp only)) | (k_end; wrow_close) | ((first | ((with_reducible show wpAny _ _ (setAttr (Value.ref _) _ _) _ _ _); k_dflt (refine' set_dictM ?k1z ?k2z ?k3z ?k4z ?k5z ?k6z ?k7z ?k8z ?k9z ?k10z ?k11z ?k12z ?k13z ?_; (case k1z => k_asm); (case k2z => k_asm); (case k3z => k_asm); (case k4z => k_inst); (case k5z => exact rfl); (case k6z => k_is); (case k7z => k_is); (case k8z => k_is); (case k9z => k_is); (case k10z => k_get); (case k11z => k_put); (case k12z => k_updF); (case k13z => exact Nat.le_of_ble_eq_true rfl); k_whole; intro _ _ _ N'; (try dsimp only at N'); (try k_sweep))) | ((with_reducible show wpAny _ _ (call (Value.type _) []) _ _ _); (with_reducible rename Fr _ _ _ _ => kF9); (with_reducible rename News _ _ _ _ => kN9); k_dflt (refine' deque_K kF9 kN9 ?_; k_whole); intro x' h' tk' F' N' l1; (try simp only [GnNe, and_true] at l1); clear kF9 kN9) | ((with_reducible show wpAny _ _ (call (Value.builtin _) [Value.ref 635]) _ _ _); (with_reducible rename Fr _ _ _ _ => kF9); (with_reducible rename News _ _ _ _ => kN9); (with_reducible rename Frag.In _ _ => kX9); k_dflt (refine' objnew_K kF9 kN9 kX9 ?_; k_whole); intro x' dx' h' tk' F' N' l1 l2 l3; (try simp only [GnNe, and_true] at l1 l2); clear kF9 kN9) | fail "none")) | walk1 | dsimp only | (leave1; walk_say "STEP leave1"; try dsimp only) | fail "no step"))
  (with_reducible rename Fr _ _ _ _ => Fq9)
  (with_reducible rename News _ _ _ _ => Nq9)
  (try dsimp only at Nq9)
  obtain ⟨⟨k, v, k2, N10⟩, hne, hpb, hfs⟩ := led_of Nq9
  clear Nq9
  (with_reducible rename Below _ _ _ _ => Bq)
  (with_reducible rename Frag.In _ _ => Xq9)
  refine list_own (dp := dp + 1) (un := un + 3) (outer := [envX cn cs L a ccd cl]) (by assumption) Fq9 (by assumption) (by assumption) rfl (by omega) (by omega) (by assumption) N10 hne hpb hfs hx ht (Nat.zero_le _) hz fun S vs' n' h9 tk9 hv9 F11 eS S1 S2 S3 U9 => ?_
  have hoL9 := Fq9.keep L _ (by assumption : PySem.Heap.get? _ L = some _)
  (with_reducible rename GSub _ _ _ => GS9)
  (with_reducible rename TI.Caller _ _ _ _ => C9)
  (with_reducible rename Kp _ _ => kp9)
  obtain ⟨es0, ep0, hd0⟩ := id C9.dict
  obtain ⟨slL, hL9⟩ := U9 L _ (by assumption) (fun vs q => by rw [hd0] at q; cases q)
  refine h S vs' n' h9 tk9 ⟨C9.ns _ slL hL9, fun b o e => F11.keep b o (kp9 b o e), C9.above⟩ (fun b o hb e => F11.keep b o (GS9 b o e (by simpa using hb))) ?_ S1 hv9
  cases q : s.heap.get? S with
  | none => rfl
  | some o =>
    have e9 := GS9 S o q (by
      simp only [List.map_nil, List.mem_cons, List.not_mem_nil, or_false]
      intro e; rw [e] at eS; dsimp only at eS; rw [hoL9] at eS; cases eS)
    rw [S3] at e9; cases e9
end
section
noncomputable def MadeL (s0 h : Heap) (bad : List Addr) (tgt : List (List Str)) (ys : List Value) : Prop :=
  ∃ Ss : List Addr, ys = Ss.map Value.ref ∧ Ss.Nodup ∧ ∀ (j : Nat) (S : Addr), Ss[j]? = some S → s0.get? S = none ∧ S ∉ bad ∧ ∃ (ns : List Str) (u : List Value) (k : Nat), tgt[j]? = some ns ∧ h.get? S = some (listOf u.toArray k) ∧ StrsAre u ns
theorem MadeL.nil {s0 h : Heap} {bad : List Addr} {tgt : List (List Str)} : MadeL s0 h bad tgt [] := ⟨[], rfl, .nil, fun j S e => by simp at e⟩
theorem MadeL.keep {s0 h h' : Heap} {bad : List Addr} {tgt : List (List Str)} {ys : List Value} (x : MadeL s0 h bad tgt ys) (k : ∀ b o, s0.get? b = none → b ∉ bad → h.get? b = some o → h'.get? b = some o) : MadeL s0 h' bad tgt ys := by
  obtain ⟨Ss, e, nd, h1⟩ := x
  refine ⟨Ss, e, nd, fun j S hj => ?_⟩
  obtain ⟨a1, a2, ns, u, n, a3, a4, a5⟩ := h1 j S hj
  exact ⟨a1, a2, ns, u, n, a3, k _ _ a1 a2 a4, a5⟩
theorem MadeL.snoc {s0 h h' : Heap} {bad : List Addr} {tgt : List (List Str)} {ys : List Value} {S : Addr} {ns : List Str} {u : List Value} {n : Nat} (x : MadeL s0 h bad tgt ys) (k : ∀ b o, s0.get? b = none → b ∉ bad → h.get? b = some o → h'.get? b = some o)
    (ht : tgt[ys.length]? = some ns) (h0 : h.get? S = none) (h1 : s0.get? S = none) (h2 : S ∉ bad) (h3 : h'.get? S = some (listOf u.toArray n)) (hu : StrsAre u ns) : MadeL s0 h' bad tgt (ys ++ [.ref S]) := by
  obtain ⟨Ss, rfl, nd, h4⟩ := x
  refine ⟨Ss ++ [S], by simp, ?_, fun j S' hj => ?_⟩
  · rw [List.nodup_append]
    refine ⟨nd, by simp, fun a ha b hb => ?_⟩
    rw [List.mem_singleton.mp hb]
    rintro rfl
    obtain ⟨j, hj⟩ := List.getElem?_of_mem ha
    obtain ⟨_, _, _, _, _, _, e, _⟩ := h4 j a hj
    rw [h0] at e; cases e
  · rw [List.getElem?_append] at hj
    split at hj
    · obtain ⟨a1, a2, ns', u', n', a3, a4, a5⟩ := h4 j S' hj
      exact ⟨a1, a2, ns', u', n', a3, k _ _ a1 a2 a4, a5⟩
    · rename_i hlt
      have hj' : j - Ss.length = 0 := by
        rcases Nat.eq_zero_or_pos (j - Ss.length) with e | e
        · exact e
        · rw [List.getElem?_eq_none (by simp; omega)] at hj; cases hj
      rw [hj'] at hj
      cases hj
      have ej : j = (Ss.map Value.ref).length := by rw [List.length_map]; omega
      exact ⟨h1, h2, ns, u, n, ej ▸ ht, h3, hu⟩
inductive MadeTwo (s0 h : Heap) (bad : List Addr) (x y : List Str) (ys : List Value) : Prop
  | mk (S1 S2 : Addr) (u1 u2 : List Value) (k1 k2 : Nat) (e : ys = [.ref S1, .ref S2]) (n : @Ne Nat S1 S2) (f1 : s0.get? S1 = none) (f2 : s0.get? S2 = none) (g1 : h.get? S1 = some (listOf (List.toArray u1) k1)) (g2 : h.get? S2 = some (listOf (List.toArray u2) k2)) (a1 : StrsAre u1 x) (a2 : StrsAre u2 y) (b1 : S1 ∉ bad) (b2 : S2 ∉ bad) : MadeTwo s0 h bad x y ys
theorem MadeL.two {s0 h : Heap} {bad : List Addr} {x y : List Str} {ys : List Value} (z : MadeL s0 h bad [x, y] ys) (hl : ys.length = 2) :
    MadeTwo s0 h bad x y ys := by
  obtain ⟨Ss, rfl, nd, h4⟩ := z
  rw [List.length_map] at hl
  match Ss, hl with
  | [S1, S2], _ =>
    obtain ⟨a1, a2, ns, u1, k1, e1, a3, a4⟩ := h4 0 S1 rfl
    obtain ⟨b1, b2, ns', u2, k2, e2, b3, b4⟩ := h4 1 S2 rfl
    cases e1; cases e2
    refine ⟨S1, S2, u1, u2, k1, k2, rfl, fun e => ?_, a1, b1, a3, b3, a4, b4, a2, b2⟩
    have := (List.nodup_cons.mp nd).1
    exact this (by rw [show S1 = S2 from e]; simp)
theorem lines_K {w : World} {s : Shared} {Q : Flow → Shared → Prop} {E : Value → Shared → Prop} {dp un : Nat} {gd : Option (List Code)} {cn : Str} {cs : Scope} {L a : Addr} {ccd : Value} {cl cl1 : List (Str × Addr)} {A₀ : Around} {base h₀ : Heap} {m : Str → Option Value} {mean : ExcName → Option Value} {mg mb : Str → Option Value}
    {W : Addr} {vs : List Value} {tgt : List (List Str)} {nW : Nat} {ps : Array Value} {iter : PySem.Expr} {p1 p2 p3 p4 p5 px py pos spos : Pos} {scope : Scope}
    (B : Below A₀ base [] h₀) (F : Fr h₀ L s.heap m) (X : (tKf w.params).In h₀) (T : Top topProg loose mean mg mb h₀) (hk : cs.kind = .function) (h1 : dp + 20 < 1000) (h2 : un + 400 + 1000 < 9900)
    (N : News h₀ L s.heap [(784, tabObj ps), (W, listOf vs.toArray nW)]) (hW : @Ne Nat 784 W) (hok : TabOk posG ps) (hb : AllBare s.gens) (hvz : vs.length ≤ 100)
    (src : ∀ (i : Nat) v, vs[i]? = some v → ∃ Wi vi ni nsi, v = .ref Wi ∧ (s.heap.get? Wi = some (listOf (List.toArray vi) ni) ∧ Wi ≠ L ∧ h₀.get? Wi = none) ∧ @Ne Nat 784 Wi ∧ tgt[i]? = some nsi ∧ StrsAre vi nsi ∧ (∀ x ∈ nsi, x ∈ menu) ∧ nsi ≠ [] ∧ nsi.length ≤ 10)
    (hiter : wpAny (model prog w) (ktrTop dp un gd cn cs L a ccd cl []) (eval iter (envX cn cs L a ccd cl)) (fun xv s₁ => xv = .ref W ∧ s₁ = s) E s)
    (hclos : closureFor scope (envX cn cs L a ccd cl) = pure cl1) (hcell : ∀ z ∈ scope.names, z.2 ≠ .cell) (hkind : scope.kind = .function) (hnames : ∀ z ∈ scope.names, z.2 = .local → scope.names.lookup z.1 = some .local) (hx : scope.names.lookup (Str.ofString "line") = some .local)
    (k1 : (relabel scope (envX cn cs L a ccd cl)).names.lookup (Str.ofString "split") = some .globalImplicit) (k2 : (relabel scope (envX cn cs L a ccd cl)).names.lookup (Str.ofString "join_shlex") = some .globalImplicit) (k3 : (relabel scope (envX cn cs L a ccd cl)).names.lookup (Str.ofString "line") = some .local)
    (hs : ∀ x, foldedSetIterable iter (envX cn cs L a ccd cl) x = pure x)
    (hy : (envX cn cs L a ccd cl).kindOf (Str.ofString "lines") = some .local) (hsw : swapsWith (PySem.Expr.ListComp (.Call (.Name (Str.ofString "split") p1) [.Call (.Name (Str.ofString "join_shlex") p2) [.Name (Str.ofString "line") p3] [] p4] [] p5) [⟨.Name (Str.ofString "line") px, iter, [], 0⟩] scope pos) (some (.Name (Str.ofString "lines") py)) spos.line (envX cn cs L a ccd cl) = pure true)
    (done : ∀ D ys bad ps' (s' : Shared), AllBare s'.gens → s'.os = s.os → Fr h₀ L s'.heap (fun z => if z = Str.ofString "lines" then some (.ref D) else m z) → Kx [L, 784] s.heap s'.heap → s.heap.get? D = none → D ∈ bad → s'.heap.get? D = some { cls := .type "list", data := .seq (List.toArray ys) ys.length } → ys.length = vs.length → MadeL s.heap s'.heap bad tgt ys → s'.heap.get? 784 = some (tabObj ps') → TabOk posG ps' → Q .next s') :
    wpAny (model prog w) (ktrTop dp un gd cn cs L a ccd cl []) (exec (.Assign [.Name (Str.ofString "lines") py] (PySem.Expr.ListComp (.Call (.Name (Str.ofString "split") p1) [.Call (.Name (Str.ofString "join_shlex") p2) [.Name (Str.ofString "line") p3] [] p4] [] p5) [⟨.Name (Str.ofString "line") px, iter, [], 0⟩] scope pos) spos) (envX cn cs L a ccd cl)) Q E s := by
  have zT := N (784, tabObj ps) (by k_mem)
  have zW := N (W, listOf vs.toArray nW) (by k_mem)
  obtain ⟨oL, _, _, hoL, _⟩ := id F.ns
  refine assignS (m := m) (l := W) (vs := vs) (fun bad i ys (s₁ : Shared) => ys.length = i ∧ (∀ b ∈ bad, s.heap.get? b = none) ∧ AllBare s₁.gens ∧ s₁.os = s.os ∧ Fr h₀ L s₁.heap m ∧ Kx [L, 784] s.heap s₁.heap ∧ MadeL s.heap s₁.heap bad tgt ys ∧ ∃ ps', s₁.heap.get? 784 = some (tabObj ps') ∧ TabOk posG ps')
    hsw hy (by show (cs.kind == .class || (cs.kind == .module && _)) = false; rw [hk]; rfl) ⟨oL, hoL⟩ ?hfr rfl hclos hcell hkind hnames hx hiter (by rw [sizeLine_eq]; omega) ?hl ?J0 ?stab ?elem ?done hs
  case hfr =>
    rintro bad i ys s₁ ⟨_, _, _, _, c5, _⟩ _
    exact c5.ns
  case hl =>
    rintro bad i ys s₁ ⟨_, _, _, _, _, kx, _⟩
    exact ⟨_, kx W _ (by simp only [List.mem_cons, List.not_mem_nil, or_false, not_or]; exact ⟨zW.2.1, Ne.symm hW⟩) zW.1, rfl, _, rfl⟩
  case J0 =>
    intro bad hbad
    exact ⟨rfl, hbad, hb, rfl, F, fun _ _ _ e => e, .nil, ps, zT.1, hok⟩
  case stab =>
    rintro bad i ys s₁ h' tk hY40z k
    refine and8 hY40z ?_
    intro c1 c2 c3 c4 c5 c6 c7 hZ41z
    clear hY40z
    refine ex1 hZ41z ?_
    intro ps' hZ42z
    clear hZ41z
    refine and2 hZ42z ?_
    intro c8 c9
    clear hZ42z
    have up : ∀ b o, s.heap.get? b ≠ none → s₁.heap.get? b = some o → h'.get? b = some o := fun b o hn e => k b o (fun hb => hn (c2 b hb)) e
    have hL0 : s.heap.get? L ≠ none := by rw [hoL]; simp
    have h70 : s.heap.get? 784 ≠ none := by rw [zT.1]; simp
    refine ⟨c1, c2, c3, c4, ⟨c5.ns.at' fun o e => up _ o hL0 e, fun b o e => up b o (by rw [F.keep b o e]; simp) (c5.keep b o e), c5.above⟩, fun b o hb e => up b o (by rw [e]; simp) (c6 b o hb e), c7.keep fun b o _ hb e => k b o hb e, ps', up _ _ h70 c8, c9⟩
  case done =>
    rintro bad D ys s₁ h' tk' hY43z hD hfr hlen hk9 hD2 hn9
    refine and8 hY43z ?_
    intro c1 c2 c3 c4 c5 c6 c7 hZ44z
    clear hY43z
    refine ex1 hZ44z ?_
    intro ps' hZ45z
    clear hZ44z
    refine and2 hZ45z ?_
    intro c8 c9
    clear hZ45z
    have up : ∀ b o, b ≠ L → s.heap.get? b ≠ none → s₁.heap.get? b = some o → h'.get? b = some o := fun b o hL hn e => hk9 b o hL (fun hb => hn (c2 b hb)) e
    have h70 : s.heap.get? 784 ≠ none := by rw [zT.1]; simp
    have gL : ∀ b o, h₀.get? b = some o → b ≠ L := fun b o e q => by
      have := Nat.lt_of_lt_of_le (Heap.lt_size e) F.above
      rw [q] at this; exact Nat.lt_irrefl _ this
    exact done D ys bad ps' ({ s₁ with heap := h', toks := tk' } : Shared) c3 c4 ⟨hn9, fun b o e => up b o (gL b o e) (by rw [F.keep b o e]; simp) (c5.keep b o e), c5.above⟩
      (fun b o hb e => up b o (fun q => hb (by rw [q]; exact .head _)) (by rw [e]; simp) (c6 b o hb e)) (c2 D hD) hD hD2 hlen
      (c7.keep fun b o hb1 hb e => hk9 b o (fun q => by rw [q, hoL] at hb1; cases hb1) hb e) (up _ _ zT.2.1 h70 c8) c9
  case elem =>
    rintro bad C i v ys s₁ m₁ E' hY46z hv hn hm hC hbad
    refine and8 hY46z ?_
    intro c1 c2 c3 c4 c5 c6 c7 hZ47z
    clear hY46z
    refine ex1 hZ47z ?_
    intro ps' hZ48z
    clear hZ47z
    refine and2 hZ48z ?_
    intro c8 c9
    clear hZ48z
    refine ex4 (src i v hv) ?_
    intro Wi vi ni nsi hZ49z
    refine and8 hZ49z ?_
    intro hR50z zi hWi hti hSi hmi hnei hzi
    clear hZ49z
    subst hR50z
    have F1 : Fr h₀ L s₁.heap m := c5
    have T1 := topRead_of T
    have kWi : s₁.heap.get? Wi = some (listOf (List.toArray vi) ni) := c6 Wi _ (by simp only [List.mem_cons, List.not_mem_nil, or_false, not_or]; exact ⟨zi.2.1, Ne.symm hWi⟩) zi.1
    have N1 : News h₀ L s₁.heap [(784, tabObj ps'), (Wi, listOf (List.toArray vi) ni)] := news_pair c8 zT.2 kWi zi.2
    refine Call_Name1 ?_ rfl
    k_dflt (refine nameG_K (v := .ref 782) F1 X T1 (by k_is) ?_ rfl hkind k1 (by decide))
    refine callWith_K (e := PySem.Expr.Call (.Name (Str.ofString "join_shlex") p2) [.Name (Str.ofString "line") p3] [] p4) (rest := []) X (by k_is) ?_
    refine spliced_more ?_
    refine Call_Name1 ?_ rfl
    k_dflt (refine nameG_K (v := .ref 789) F1 X T1 (by k_is) ?_ rfl hkind k2 (by decide))
    refine callWith_K (e := PySem.Expr.Name (Str.ofString "line") p3) (rest := []) X (by k_is) ?_
    refine spliced_more ?_
    refine ldVarK hn hm ?_ hkind k3 (by decide)
    refine spliced_none ?_
    refine ⟨X.keeps F1.keep, ?_⟩
    have hcx : CxN w (ktrTop dp un gd cn cs L a ccd cl []) s₁.heap 4 [(784, tabObj ps'), (Wi, listOf (List.toArray vi) ni)] := ⟨dp, un, gd, cn, cs, L, a, ccd, cl, [], A₀, base, h₀, m, mean, mg, mb, rfl, B, F1, X, T, hk, by omega, by omega, N1⟩
    refine join_spec hcx hWi c9 c3 hSi hmi (by omega) fun s₂ t' ps2 b2 o2 kx2 t2 l2 ok2 => ?_
    refine spliced_none ?_
    have F2 : Fr h₀ L s₂.heap m := fr_kxL F1 kx2 (by
      intro b hb; simp only [List.mem_cons, List.not_mem_nil, or_false] at hb
      rcases hb with rfl | rfl
      · exact zT.2.2
      · exact zi.2.2) (by
      simp only [List.mem_cons, List.not_mem_nil, or_false, not_or]
      exact ⟨Ne.symm zT.2.1, Ne.symm zi.2.1⟩)
    refine ⟨X.keeps F2.keep, ?_⟩
    have htk : Toks (Txt.join (Str.ofString " ") (nsi.map quoteS)).cps.toList (nsi.map fun x => x.cps.toList) := by
      cases nsi with
      | nil => exact absurd rfl hnei
      | cons g gs => exact toks_join g gs (hmi g (.head _)) (fun x hx => hmi x (.tail _ hx))
    have hjl := join_len nsi hmi
    refine split_spec F2 X T hk (by omega) (by omega) (fun _ hp => nomatch hp) (by omega) htk (by rw [List.length_map]; omega) fun S u k h' tk' F3 kx3 fS hS hu => ?_
    rw [back_cps] at hu
    have ne7 : (784 : Nat) ≠ L := zT.2.1
    have fSs : s.heap.get? S = none := by
      cases e : s.heap.get? S with
      | none => rfl
      | some o =>
        exfalso
        by_cases hSL : S = L
        · obtain ⟨o2, _, _, ho2, _⟩ := id F2.ns
          rw [hSL, ho2] at fS; cases fS
        · by_cases hS7 : S = 784
          · rw [hS7, t2] at fS; cases fS
          · have e2 := c6 S o (by simp only [List.mem_cons, List.not_mem_nil, or_false, not_or]; exact ⟨hSL, hS7⟩) e
            by_cases hSW : S = Wi
            · rw [hSW, l2] at fS; cases fS
            · have e3 := kx2 S o (by simp only [List.mem_cons, List.not_mem_nil, or_false, not_or]; exact ⟨hS7, hSW⟩) e2
              rw [e3] at fS; cases fS
    have upS : ∀ b o, s.heap.get? b = none → s₁.heap.get? b = some o → h'.get? b = some o := fun b o hb e => by
      refine kx3 b o ?_ (kx2 b o ?_ e)
      · intro q; rw [List.mem_singleton.mp q, hoL] at hb; cases hb
      · intro q; simp only [List.mem_cons, List.not_mem_nil, or_false] at q
        rcases q with rfl | rfl
        · rw [zT.1] at hb; cases hb
        · rw [zi.1] at hb; cases hb
    have fS1 : s₁.heap.get? S = none := by
      cases e : s₁.heap.get? S with
      | none => rfl
      | some o =>
        have e3 := kx2 S o (by
          intro q; simp only [List.mem_cons, List.not_mem_nil, or_false] at q
          rcases q with rfl | rfl
          · rw [t2] at fS; cases fS
          · rw [l2] at fS; cases fS) e
        rw [e3] at fS; cases fS
    refine ⟨⟨by rw [List.length_append, List.length_singleton, c1], c2, b2, o2.trans c4, F3, fun b o hb e => ?_, c7.snoc (fun b o hb _ e => upS b o hb e) (by rw [c1]; exact hti) fS1 fSs (fun q => ?_) hS hu, ps2, kx3 784 _ (by simpa using ne7) t2, ok2⟩, fun b hb' => ?_⟩
    · simp only [List.mem_cons, List.not_mem_nil, or_false, not_or] at hb
      have e2 := c6 b o (by simp only [List.mem_cons, List.not_mem_nil, or_false, not_or]; exact hb) e
      by_cases hbW : b = Wi
      · subst hbW
        rw [kWi] at e2
        cases e2
        exact kx3 b _ (by simpa using hb.1) l2
      · exact kx3 b o (by simpa using hb.1) (kx2 b o (by simp only [List.mem_cons, List.not_mem_nil, or_false, not_or]; exact ⟨hb.2, hbW⟩) e2)
    · obtain ⟨o, ho⟩ := hbad S q
      rw [fS1] at ho; cases ho
    · obtain ⟨o, ho⟩ := hbad b hb'
      exact (upS b o (c2 b hb') ho).trans ho.symm
end
section
theorem said_spec {w : World} {A : Around} {s : Shared} {Q E : Value → Shared → Prop} {glob name : Str} {t u : Tok} (hc : Cx w A s.heap 1) (hl : name.length ≤ 10) (hg : glob ∈ menu)
    (h : ∀ h' tk', Kp s.heap h' → Q (.bool (saidS glob name)) { s with heap := h', toks := tk' }) :
    wpAny (model prog w) A (call (.ref 826) [.str glob t, .str name u]) Q E s := by
  obtain ⟨dp, un, gd, cn, cs, L, a, ccd, cl, outer, A₀, base, h₀, m, mean, mg, mb, rfl, B, F, X, T, hk, h1, h2⟩ := hc
  have hi : menu.idxOf glob < 8 := List.idxOf_lt_length_iff.mpr hg
  refine wpAny_call ?_
  k_dflt (refine' code_defG ?k1 ?k2 ?k3 (News.nil) ?k5 ?kA ?kF ?kK ?k6 ?k7 ?k8 ?k9 ?kB ?_ ?c2 ?c3 ?c4 ?c5; (case kA => exact rfl); (case kF => exact rfl); (case kK => assumption); (case k1 => k_asm); (case k2 => k_asm); (case k3 => k_asm); (case k5 => k_asm); (case k6 => k_is); (case k7 => k_is); (case k8 => exact room (by assumption)); (case k9 => exact BindsTo.of_eq rfl); (case c5 => decide); (case kB => exact locs rfl); (case c2 => exact rfl); (case c3 => exact rfl); (case c4 => exact rfl); k_whole; intro _ _ _ _ _ _ _ _ _ _; (try dsimp only))
  k_fold
  (repeat' (first | (k_unfold; (try dsimp only)) | (k_end; wrow_close) | ((first | ((with_reducible show wpAny _ _ (subscriptTail _ _ (Value.ref _) (Value.int (Nat.cast (List.idxOf _ _)) _)) _ _ _); with_unfolding_all refine' item_bools (bs := saidL _) ?k1z ?k2z ?k3z ?k4z ?k5z ?_ ?k6z; (case k1z => is_list); (case k2z => with_unfolding_all rfl); (case k3z => omega); (case k4z => (simp only [saidL, List.length_cons, List.length_nil]; omega)); (case k5z => omega); (case k6z => with_unfolding_all rfl); k_whole) | ((with_reducible show wpAny _ _ (call (Value.builtin _) [Value.ref _, Value.str _ _]) _ _ _); refine index_list_strs (ns := menu) (by is_list) (.cons _ _ (.cons _ _ (.cons _ _ (.cons _ _ (.cons _ _ (.cons _ _ (.cons _ _ (.cons _ _ .nil)))))))) (by decide) (by assumption) ?_) | fail "none")) | walk1 | dsimp only | (leave1; walk_say "STEP leave1"; try dsimp only) | fail "no step"))
  exact h _ _ (kp_of (by assumption) (by assumption))
end
section
open PyProof.Rows.LCg
theorem turn_outer (elt t1 i1 t2 i2 : PySem.Expr) (ifs2 : List PySem.Expr) (scope : Scope) (pos : Pos) (it acc : Value) (env : Env) :
    compTurn (.ListComp elt [⟨t1, i1, [], 0⟩, ⟨t2, i2, ifs2, 0⟩] scope pos) 0 it acc env = (standAt i1.pos >>= fun _ => pyNext it >>= fun r => match r with
      | none => pure (.done .next)
      | some v => letOwnedTupleGo t1 it v >>= fun _ => assign t1 env v >>= fun _ =>
        eval i2 env >>= fun x => standAt i2.pos >>= fun _ => foldedSetIterable i2 env x >>= fun x => holding [x] (pyIter x) >>= fun it2 => runOwn (.compStart (.ListComp elt [⟨t1, i1, [], 0⟩, ⟨t2, i2, ifs2, 0⟩] scope pos) 1 it2 acc env) env >>= fun _ =>
          again (.compLoop (.ListComp elt [⟨t1, i1, [], 0⟩, ⟨t2, i2, ifs2, 0⟩] scope pos) 0 it acc env)) := by rfl
theorem turn_inner (elt t1 i1 t2 i2 c : PySem.Expr) (scope : Scope) (pos : Pos) (it acc : Value) (env : Env) :
    compTurn (.ListComp elt [⟨t1, i1, [], 0⟩, ⟨t2, i2, [c], 0⟩] scope pos) 1 it acc env = (standAt i2.pos >>= fun _ => pyNext it >>= fun r => match r with
      | none => pure (.done .next)
      | some v => letOwnedTupleGo t2 it v >>= fun _ => assign t2 env v >>= fun _ =>
        (forIn [c] true fun c r => if r = true then do let ok ← isTrue c env (eval c env); pure (ForInStep.yield ok) else pure (ForInStep.yield r)) >>= fun ok =>
        if ok = true then ((eval elt env >>= fun x => call (.builtin "list.append") [acc, x] >>= fun _ => pure ()) >>= fun _ => again (.compLoop (.ListComp elt [⟨t1, i1, [], 0⟩, ⟨t2, i2, [c], 0⟩] scope pos) 1 it acc env)) else
          again (.compLoop (.ListComp elt [⟨t1, i1, [], 0⟩, ⟨t2, i2, [c], 0⟩] scope pos) 1 it acc env)) := by rfl
section
variable {prog : Program} {w : World} {A : Around} {E : Value → Shared → Prop} {R : Result → Shared → Prop} {s : Shared}
theorem start_inner {elt t1 i1 t2 i2 : PySem.Expr} {ifs2 : List PySem.Expr} {scope : Scope} {pos : Pos} {it acc : Value} {env : Env}
    (h0 : codeAny (model prog w) A (.compLoop (.ListComp elt [⟨t1, i1, [], 0⟩, ⟨t2, i2, ifs2, 0⟩] scope pos) 1 it acc env) R s)
    (h : ∀ E', wpAny (model prog w) A (pyIter it) (fun it' s' => codeAny (model prog w) A (.compLoop (.ListComp elt [⟨t1, i1, [], 0⟩, ⟨t2, i2, ifs2, 0⟩] scope pos) 1 it' acc env) R s') E' s) :
    codeAny (model prog w) A (.compStart (.ListComp elt [⟨t1, i1, [], 0⟩, ⟨t2, i2, ifs2, 0⟩] scope pos) 1 it acc env) R s := by
  refine codeAny_of_tree ?_
  show wpAny _ _ ((compStart (.ListComp elt [⟨t1, i1, [], 0⟩, ⟨t2, i2, ifs2, 0⟩] scope pos) 1 it acc env).onRaise (fun x => do noteFrame x env; standAt theWindowsPlace)) _ _ s
  refine wpAny_notedAt ?_
  unfold compStart
  show wpAny _ _ (ask >>= _) _ _ s
  refine wpAny_bind (wpAny_askSetting (wpAny_ite ?_))
  split
  · first
      | exact wpAny_bind (wpAny_pure (wpAny_pure (And.intro rfl h0)))
      | exact wpAny_pure (And.intro rfl h0)
  · first
      | exact wpAny_bind (wpAny_rule (wpAny_bind (wpAny_standAt (wpAny_bind (wpAny_mono (h _) (fun it' s' h' => wpAny_pure (And.intro rfl h')) fun _ _ x => x)))))
      | (refine wpAny_bind (wpAny_rule ?_); show wpAny _ _ (standAt i2.pos >>= _) _ _ s; exact wpAny_bind (wpAny_standAt (wpAny_bind (wpAny_mono (h _) (fun it' s' h' => wpAny_pure (And.intro rfl h')) fun _ _ x => x))))
/-- the inner loop of [y for x in l1 for y in l2 if test] -/
theorem inner_loop {py : Pos} {t1 i1 i2 c elt : PySem.Expr} {x y : Str} {scope : Scope} {pos : Pos} {cenv : Env} {s₀ : Shared} {I D l2 : Addr} {vs2 acc : List Value} {m : Str → Option Value} {v1 : Value} (p : Value → Bool)
    (hh : A.handled = none) (hx : cenv.kindOf y = some .local) (hp : (cenv.scope.kind == .class || (cenv.scope.kind == .module && cenv.locals != cenv.globals)) = false) (hxy : x ≠ y)
    (hDI : @Ne Nat D I) (hDC : @Ne Nat D cenv.locals) (hIC : @Ne Nat I cenv.locals) (hl2 : s₀.heap.IsList l2 vs2.toArray)
    (fD : s₀.heap.get? D = none) (fC : s₀.heap.get? cenv.locals = none) (fI : s₀.heap.get? I = none)
    (k0 : ∀ b o, s₀.heap.get? b = some o → s.heap.get? b = some o) (hs0 : ∃ h tk, s = { s₀ with heap := h, toks := tk })
    (hit : s.heap.IsListIter I l2 0) (hn : s.heap.Ns cenv.locals m) (hm : m x = some v1) (hacc : s.heap.get? D = some (lst acc))
    (htest : ∀ (j : Nat) (v : Value) (s₁ : Shared) m₁ E', vs2[j]? = some v → (∀ b o, s₀.heap.get? b = some o → s₁.heap.get? b = some o) → s₁.heap.Ns cenv.locals m₁ → m₁ x = some v1 → m₁ y = some v →
      wpAny (model prog w) A (isTrue c cenv (eval c cenv)) (fun ok s₂ => ok = p v ∧ Keeps s₁ s₂) E' s₁)
    (helt : ∀ v (s₁ : Shared) m₁ E', s₁.heap.Ns cenv.locals m₁ → m₁ y = some v → wpAny (model prog w) A (eval elt cenv) (fun r s₂ => r = v ∧ s₂ = s₁) E' s₁)
    (hsz : acc.length + vs2.length ≤ sizeLine)
    (hR : ∀ h' tk m', (∀ b o, b ≠ I → b ≠ D → b ≠ cenv.locals → s.heap.get? b = some o → h'.get? b = some o) → h'.Ns cenv.locals m' → h'.get? D = some (lst (acc ++ vs2.filter p)) → R (.ok .next) { s₀ with heap := h', toks := tk }) :
    codeAny (model prog w) A (.compLoop (.ListComp elt [⟨t1, i1, [], 0⟩, ⟨.Name y py, i2, [c], 0⟩] scope pos) 1 (.ref I) (.ref D) cenv) R s := by
  refine codeAny_loop rfl
    (fun k s' => ∃ h' tk m' i, s' = { s₀ with heap := h', toks := tk } ∧ h'.IsListIter I l2 i ∧ (∀ b o, b ≠ I → b ≠ D → b ≠ cenv.locals → s.heap.get? b = some o → h'.get? b = some o) ∧ h'.Ns cenv.locals m' ∧ m' x = some v1 ∧ h'.get? D = some (lst (acc ++ (vs2.take i).filter p)) ∧ i ≤ vs2.length ∧ k = vs2.length + 1 - i)
    ?_ (vs2.length + 1) ?h0
  case h0 =>
    obtain ⟨h, tk, rfl⟩ := hs0
    exact ⟨h, tk, m, 0, rfl, hit, fun _ _ _ _ _ e => e, hn, hm, by simpa using hacc, Nat.zero_le _, rfl⟩
  rintro k s' hY126z
  refine ex4 hY126z ?_
  intro h' tk m' i hZ127z
  clear hY126z
  refine and8 hZ127z ?_
  intro hR128z hit' hk' hn' hm' hD' hi hR129z
  clear hZ127z
  subst hR128z
  subst hR129z
  show wpAny _ A ((compTurn (.ListComp elt [⟨t1, i1, [], 0⟩, ⟨.Name y py, i2, [c], 0⟩] scope pos) 1 (.ref I) (.ref D) cenv).onRaise (fun x => do noteFrame x cenv; theTreesLotGoes x)) _ _ _
  refine wpAny_noted ?_
  rw [turn_inner]
  refine wpAny_bind (wpAny_standAt (wpAny_bind ?_))
  have keep : ∀ b o, s₀.heap.get? b = some o → h'.get? b = some o := fun b o e => hk' b o (by rintro rfl; rw [fI] at e; cases e) (by rintro rfl; rw [fD] at e; cases e) (by rintro rfl; rw [fC] at e; cases e) (k0 b o e)
  have hl' : h'.IsList l2 vs2.toArray := hl2.at fun o e => keep _ _ e
  cases hv : vs2[i]? with
  | none =>
    have hin : vs2.length ≤ i := List.getElem?_eq_none_iff.mp hv
    refine wpAny_pyNext_list_end hh hit' hl' (by simpa using hv) fun h₁ he₁ => ?_
    refine wpAny_pure (hR h₁ tk m' (fun b o a1 a2 a3 e => he₁ b o a1 (hk' b o a1 a2 a3 e)) (hn'.extBut he₁ (Ne.symm hIC)) ?_)
    rw [List.take_of_length_le hin] at hD'
    exact he₁ _ _ hDI hD'
  | some v =>
    have hlt : i < vs2.length := (List.getElem?_eq_some_iff.mp hv).1
    refine wpAny_pyNext_list_item hit' hl' (by simpa using hv) fun h₁ hit₁ hs₁ => ?_
    refine wpAny_bind (wpAny_pure ?_)
    refine wpAny_bind (wpAny_assign_Name (wpAny_storeName_local hx (hn'.sameBut hs₁ (Ne.symm hIC)) (fun h₂ hn₂ hs₂ => ?_) hp))
    have up₂ : ∀ b o, b ≠ I → b ≠ cenv.locals → h'.get? b = some o → h₂.get? b = some o := fun b o a1 a2 e => hs₂.extBut b o a2 (hs₁.extBut b o a1 e)
    have keep₂ : ∀ b o, s₀.heap.get? b = some o → h₂.get? b = some o := fun b o e => up₂ b o (by rintro rfl; rw [fI] at e; cases e) (by rintro rfl; rw [fC] at e; cases e) (keep b o e)
    have hx1 : (fun z => if z = y then some v else m' z) x = some v1 := by simp only [if_neg hxy]; exact hm'
    refine wpAny_bind (wpAny_tests_one (wpAny_mono (htest i v _ _ _ hv keep₂ hn₂ hx1 (by simp)) (fun ok s₃ h₃ => ?_) fun _ _ e => e))
    obtain ⟨rfl, h₃, tk₃, rfl, hk₃⟩ := h₃
    have hn₃ : h₃.Ns cenv.locals _ := hn₂.at' fun o e => hk₃ _ o e
    have hit₃ : h₃.IsListIter I l2 (i + 1) := hit₁.at fun o e => hk₃ _ o (hs₂.extBut _ o hIC e)
    have hD₃ : h₃.get? D = some (lst (acc ++ (vs2.take i).filter p)) := hk₃ _ _ (up₂ _ _ hDI hDC hD')
    have up₃ : ∀ b o, b ≠ I → b ≠ cenv.locals → h'.get? b = some o → h₃.get? b = some o := fun b o a1 a2 e => hk₃ _ _ (up₂ b o a1 a2 e)
    cases hpv : p v with
    | false =>
      refine (wpAny_pure ⟨rfl, vs2.length + 1 - (i + 1), by omega, h₃, tk₃, _, i + 1, rfl, hit₃, fun b o a1 a2 a3 e => up₃ b o a1 a3 (hk' b o a1 a2 a3 e), hn₃, hx1, ?_, hlt, rfl⟩)
      rw [PySem.take_succ_filter p vs2 i v hv, hpv]
      simpa using hD₃
    | true =>
      refine wpAny_bind (wpAny_bind (wpAny_mono (helt v _ _ _ hn₃ (by simp)) (fun r s₄ h₄ => ?_) fun _ _ e => e))
      obtain ⟨rfl, rfl⟩ := h₄
      refine wpAny_bind (append_at (hsz := ?hsz) hD₃ fun h₅ hs₅ hD₅ => ?go)
      case hsz =>
        have h1 := List.length_filter_le p (vs2.take i)
        have h2 : (vs2.take i).length ≤ i := by rw [List.length_take]; exact Nat.min_le_left _ _
        show (acc ++ (vs2.take i).filter p).toArray.size ≤ sizeLine
        rw [List.size_toArray, List.length_append]
        omega
      case go =>
        refine wpAny_pure (wpAny_pure ⟨rfl, vs2.length + 1 - (i + 1), by omega, h₅, tk₃, _, i + 1, rfl, hit₃.at fun o e => hs₅.extBut _ o (Ne.symm hDI) e, fun b o a1 a2 a3 e => hs₅.extBut b o a2 (up₃ b o a1 a3 (hk' b o a1 a2 a3 e)), hn₃.at' fun o e => hs₅.extBut _ o (Ne.symm hDC) e, hx1, ?_, hlt, rfl⟩)
        rw [PySem.take_succ_filter p vs2 i r hv, hpv, hD₅, ← List.append_assoc]
        exact congrArg some (lst_snoc _ _)
/-- [y for x in l1 for y in l2 if test] -/
theorem comp2 {env : Env} {elt iter1 iter2 c : PySem.Expr} {x y : Str} {px py : Pos} {scope : Scope} {cl : List (Str × Addr)} {pos : Pos} {Q : Value → Shared → Prop} {l1 l2 : Addr} {vs1 vs2 : List Value} (p : Value → Value → Bool)
    (hh : A.handled = none) (hclos : closureFor scope env = pure cl) (hcell : ∀ z ∈ scope.names, z.2 ≠ .cell) (hkind : scope.kind = .function)
    (hnames : ∀ z ∈ scope.names, z.2 = .local → scope.names.lookup z.1 = some .local) (hx : scope.names.lookup x = some .local) (hy : scope.names.lookup y = some .local) (hxy : x ≠ y)
    (hiter : wpAny (model prog w) A (eval iter1 env) (fun xv s₁ => xv = .ref l1 ∧ s₁ = s) E s) (hl1 : s.heap.IsList l1 vs1.toArray) (hl2 : s.heap.IsList l2 vs2.toArray)
    (hiter2 : ∀ C (s₁ : Shared) m₁ E', (∀ b o, s.heap.get? b = some o → s₁.heap.get? b = some o) → s₁.heap.Ns C m₁ → wpAny (model prog w) A (eval iter2 (compEnvC scope cl C env)) (fun xv s₂ => xv = .ref l2 ∧ s₂ = s₁) E' s₁)
    (htest : ∀ C (i : Nat) (v1 : Value) (j : Nat) (v2 : Value) (s₁ : Shared) m₁ E', vs1[i]? = some v1 → vs2[j]? = some v2 → (∀ b o, s.heap.get? b = some o → s₁.heap.get? b = some o) → s₁.heap.Ns C m₁ → m₁ x = some v1 → m₁ y = some v2 →
      wpAny (model prog w) A (isTrue c (compEnvC scope cl C env) (eval c (compEnvC scope cl C env))) (fun ok s₂ => ok = p v1 v2 ∧ Keeps s₁ s₂) E' s₁)
    (helt : ∀ C v (s₁ : Shared) m₁ E', s₁.heap.Ns C m₁ → m₁ y = some v → wpAny (model prog w) A (eval elt (compEnvC scope cl C env)) (fun r s₂ => r = v ∧ s₂ = s₁) E' s₁)
    (hsz : vs1.length * vs2.length ≤ sizeLine)
    (done : ∀ D h' tk, (∀ b o, s.heap.get? b = some o → h'.get? b = some o) → s.heap.get? D = none → h'.get? D = some (lst (vs1.flatMap fun v1 => vs2.filter (p v1))) → Q (.ref D) { s with heap := h', toks := tk })
    (hs : ∀ x, foldedSetIterable iter1 env x = pure x := by intro _; rfl) (hs2 : ∀ C x, foldedSetIterable iter2 (compEnvC scope cl C env) x = pure x := by intros; rfl) :
    wpAny (model prog w) A (eval (.ListComp elt [⟨.Name x px, iter1, [], 0⟩, ⟨.Name y py, iter2, [c], 0⟩] scope pos) env) Q E s := by
  rw [eval_ListComp]
  refine wpAny_comprehension_free (use := none) rfl hs hclos hkind hnames (wpAny_mono hiter (fun xv s₁ h₁ => ?_) fun _ _ e => e)
  obtain ⟨rfl, rfl⟩ := h₁
  refine wpAny_pyIter_list hl1 ?_
  refine wpAny_newObj_type (wpAny_newFunctionEnv hcell (by intro y hy; simp at hy) (fun h₁ hns₁ hsb₁ => ?_) hkind)
  dsimp only at hns₁ hsb₁ ⊢
  have hI1 : (s₁.heap.push { cls := .type "list_iterator", data := .fields #[.ref l1, .int 0 0] }).get? s₁.heap.objs.size = some { cls := .type "list_iterator", data := .fields #[.ref l1, .int 0 0] } := Heap.get?_push_size _ rfl
  have old1 : ∀ b o, s₁.heap.get? b = some o → (s₁.heap.push { cls := .type "list_iterator", data := .fields #[.ref l1, .int 0 0] }).get? b = some o := fun _ _ e => Heap.get?_push_of_some _ e
  have sz1 : (s₁.heap.push { cls := .type "list_iterator", data := .fields #[.ref l1, .int 0 0] }).objs.size = s₁.heap.objs.size + 1 := Heap.size_push _ _
  generalize s₁.heap.push { cls := .type "list_iterator", data := .fields #[.ref l1, .int 0 0] } = H1 at hns₁ hsb₁ hI1 old1 sz1 ⊢
  have hD2 : (H1.push { cls := .type "list", dict := none, data := .seq ([] : List Value).toArray }).get? H1.objs.size = some (lst []) := Heap.get?_push_size _ rfl
  have old2 : ∀ b o, H1.get? b = some o → (H1.push { cls := .type "list", dict := none, data := .seq ([] : List Value).toArray }).get? b = some o := fun _ _ e => Heap.get?_push_of_some _ e
  have sz2 : (H1.push { cls := .type "list", dict := none, data := .seq ([] : List Value).toArray }).objs.size = H1.objs.size + 1 := Heap.size_push _ _
  generalize H1.push { cls := .type "list", dict := none, data := .seq ([] : List Value).toArray } = H2 at hns₁ hsb₁ hD2 old2 sz2 ⊢
  have fresh : ∀ a, s₁.heap.objs.size ≤ a → s₁.heap.get? a = none := fun a ha => Heap.get?_none_of_le ha
  have nCI : H2.objs.size ≠ s₁.heap.objs.size := by rw [sz2, sz1]; omega
  have nCD : H2.objs.size ≠ H1.objs.size := by rw [sz2]; omega
  have nDI : H1.objs.size ≠ s₁.heap.objs.size := by rw [sz1]; omega
  have up : ∀ b o, b ≠ H2.objs.size → H2.get? b = some o → h₁.get? b = some o := fun b o hb e => hsb₁.extBut b o hb (Heap.get?_push_of_some _ e)
  have old : ∀ b o, s₁.heap.get? b = some o → h₁.get? b = some o := fun b o e => up b o (Nat.ne_of_lt (Nat.lt_of_lt_of_le (Heap.lt_size e) (by rw [sz2, sz1]; exact Nat.le_succ_of_le (Nat.le_succ _)))) (old2 _ _ (old1 _ _ e))
  have hI3 : h₁.get? s₁.heap.objs.size = some { cls := .type "list_iterator", data := .fields #[.ref l1, .int 0 0] } := up _ _ (Ne.symm nCI) (old2 _ _ hI1)
  have hD3 : h₁.get? H1.objs.size = some (lst []) := up _ _ (Ne.symm nCD) hD2
  have fI : s₁.heap.get? s₁.heap.objs.size = none := fresh _ (Nat.le_refl _)
  have fD : s₁.heap.get? H1.objs.size = none := fresh _ (by rw [sz1]; omega)
  have fC : s₁.heap.get? H2.objs.size = none := fresh _ (by rw [sz2, sz1]; omega)
  clear hsb₁ up hI1 hD2 old1 old2 sz1 sz2 fresh
  generalize H2.objs.size = C at *
  generalize H1.objs.size = D at *
  generalize s₁.heap.objs.size = I at *
  have loop : ∀ s₃ : Shared, s₃ = { s₁ with heap := h₁, toks := s₁.toks + ([] : List (Str × Value)).length } →
      codeAny (model prog w) A (.compLoop (.ListComp elt [⟨.Name x px, iter1, [], 0⟩, ⟨.Name y py, iter2, [c], 0⟩] scope pos) 0 (.ref I) (.ref D) (compEnvC scope cl C env)) (compPost (model prog w) A E none Q (.ref D) C) s₃ := by
    rintro s₃ rfl
    refine codeAny_loop rfl
      (fun k s' => ∃ h' tk m' i, s' = { s₁ with heap := h', toks := tk } ∧ h'.IsListIter I l1 i ∧ (∀ b o, s₁.heap.get? b = some o → h'.get? b = some o) ∧ h'.Ns C m' ∧ h'.get? D = some (lst ((vs1.take i).flatMap fun v1 => vs2.filter (p v1))) ∧ i ≤ vs1.length ∧ k = vs1.length + 1 - i)
      ?_ (vs1.length + 1) ⟨h₁, _, _, 0, rfl, ⟨_, hI3, rfl, rfl⟩, old, hns₁, hD3, Nat.zero_le _, rfl⟩
    rintro k s' hY130z
    refine ex4 hY130z ?_
    intro h' tk m' i hZ131z
    clear hY130z
    refine and7 hZ131z ?_
    intro hR132z hit' keep hn' hD' hi hR133z
    clear hZ131z
    subst hR132z
    subst hR133z
    show wpAny _ A ((compTurn (.ListComp elt [⟨.Name x px, iter1, [], 0⟩, ⟨.Name y py, iter2, [c], 0⟩] scope pos) 0 (.ref I) (.ref D) (compEnvC scope cl C env)).onRaise (fun x => do noteFrame x (compEnvC scope cl C env); theTreesLotGoes x)) _ _ _
    refine wpAny_noted ?_
    rw [turn_outer]
    refine wpAny_bind (wpAny_standAt (wpAny_bind ?_))
    have hl' : h'.IsList l1 vs1.toArray := hl1.at fun o e => keep _ _ e
    cases hv : vs1[i]? with
    | none =>
      have hin : vs1.length ≤ i := List.getElem?_eq_none_iff.mp hv
      refine wpAny_pyNext_list_end hh hit' hl' (by simpa using hv) fun h₂ he₂ => ?_
      refine wpAny_pure ⟨m', hn'.extBut he₂ (Ne.symm (Ne.symm nCI)), fun h₄ hs₄ => ?_⟩
      rw [List.take_of_length_le hin] at hD'
      exact done D h₄ tk (fun b o e => hs₄.extBut _ _ (by rintro rfl; rw [fC] at e; cases e) (he₂ _ _ (by rintro rfl; rw [fI] at e; cases e) (keep b o e))) fD (hs₄.extBut _ _ (Ne.symm nCD) (he₂ _ _ nDI hD'))
    | some v =>
      have hlt : i < vs1.length := (List.getElem?_eq_some_iff.mp hv).1
      refine wpAny_pyNext_list_item hit' hl' (by simpa using hv) fun h₂ hit₂ hs₂ => ?_
      refine wpAny_bind (wpAny_pure ?_)
      have hp : ((compEnvC scope cl C env).scope.kind == .class || ((compEnvC scope cl C env).scope.kind == .module && (compEnvC scope cl C env).locals != (compEnvC scope cl C env).globals)) = false := by simp [compEnvC, relabel, hkind]
      refine wpAny_bind (wpAny_assign_Name (wpAny_storeName_local (lookup_relabel_local hx) (hn'.sameBut hs₂ nCI) (fun h₃ hn₃ hs₃ => ?_) hp))
      have keep₃ : ∀ b o, s₁.heap.get? b = some o → h₃.get? b = some o := fun b o e => hs₃.extBut b o (fun e2 => by have e2 : b = C := e2; rw [e2, fC] at e; cases e) (hs₂.extBut b o (by rintro rfl; rw [fI] at e; cases e) (keep b o e))
      have hit₃ : h₃.IsListIter I l1 (i + 1) := hit₂.at fun o e => hs₃.extBut _ o (Ne.symm nCI) e
      have hD₃ : h₃.get? D = some (lst ((vs1.take i).flatMap fun v1 => vs2.filter (p v1))) := hs₃.extBut _ _ (Ne.symm nCD) (hs₂.extBut _ _ nDI hD')
      refine wpAny_bind (wpAny_mono (hiter2 C _ _ _ keep₃ hn₃) (fun xv s₄ h₄ => ?_) fun _ _ e => e)
      obtain ⟨rfl, rfl⟩ := h₄
      refine wpAny_bind (wpAny_standAt (wpAny_bind (wpAny_of_eq (hs2 _ _) (wpAny_bind (wpAny_holding ?_)))))
      have hl2₃ : h₃.IsList l2 vs2.toArray := hl2.at fun o e => keep₃ _ _ e
      refine wpAny_pyIter_list hl2₃ ?_
      dsimp only
      have hJ : (h₃.push { cls := .type "list_iterator", data := .fields #[.ref l2, .int 0 0] }).get? h₃.objs.size = some { cls := .type "list_iterator", data := .fields #[.ref l2, .int 0 0] } := Heap.get?_push_size _ rfl
      have up₄ : ∀ b o, h₃.get? b = some o → (h₃.push { cls := .type "list_iterator", data := .fields #[.ref l2, .int 0 0] }).get? b = some o := fun _ _ e => Heap.get?_push_of_some _ e
      have fJ3 : h₃.get? h₃.objs.size = none := Heap.get?_none_of_le (Nat.le_refl _)
      generalize h₃.push { cls := .type "list_iterator", data := .fields #[.ref l2, .int 0 0] } = h₄ at hJ up₄ ⊢
      generalize h₃.objs.size = J at hJ fJ3 ⊢
      have fJ : s₁.heap.get? J = none := by
        cases e : s₁.heap.get? J with
        | none => rfl
        | some o => rw [keep₃ _ _ e] at fJ3; cases fJ3
      have nDJ : D ≠ J := by rintro rfl; rw [hD₃] at fJ3; cases fJ3
      have nJC : J ≠ C := by
        obtain ⟨o, _, _, ho, _⟩ := id hn₃
        rintro rfl
        rw [show (compEnvC scope cl J env).locals = J from rfl, fJ3] at ho; cases ho
      have nIJ : I ≠ J := by
        obtain ⟨o, ho, _⟩ := id hit₃
        rintro rfl
        rw [fJ3] at ho; cases ho
      have hit₄ : h₄.IsListIter I l1 (i + 1) := hit₃.at fun o e => up₄ _ _ e
      have inn : ∀ R : Result → Shared → Prop, (∀ h' tk m', (∀ b o, b ≠ J → b ≠ D → b ≠ C → h₄.get? b = some o → h'.get? b = some o) → h'.Ns C m' → h'.get? D = some (lst (((vs1.take i).flatMap fun v1 => vs2.filter (p v1)) ++ vs2.filter (p v))) → R (.ok .next) { s₁ with heap := h', toks := tk }) →
          codeAny (model prog w) A (.compLoop (.ListComp elt [⟨.Name x px, iter1, [], 0⟩, ⟨.Name y py, iter2, [c], 0⟩] scope pos) 1 (.ref J) (.ref D) (compEnvC scope cl C env)) R { s₁ with heap := h₄, toks := tk + 1 } := fun R hR => by
        refine inner_loop (s₀ := s₁) (l2 := l2) (vs2 := vs2) (x := x) (v1 := v) (cenv := compEnvC scope cl C env) (p v) hh (lookup_relabel_local hy) hp hxy nDJ (Ne.symm nCD) nJC hl2 fD fC fJ (fun b o e => up₄ _ _ (keep₃ b o e)) ⟨_, _, rfl⟩ ⟨_, hJ, rfl, rfl⟩ (hn₃.at' fun o e => up₄ _ _ e) (by simp) (up₄ _ _ hD₃)
          (fun j v2 s₅ m₅ E' hj k5 n5 m5x m5y => htest C i v j v2 s₅ m₅ E' hv hj k5 n5 m5x m5y) (fun v2 s₅ m₅ E' n5 m5 => helt C v2 s₅ m₅ E' n5 m5) ?_ hR
        have hfl : ∀ l : List Value, (l.flatMap fun v1 => vs2.filter (p v1)).length ≤ l.length * vs2.length := by
          intro l
          induction l with
          | nil => simp
          | cons a l ih =>
            rw [List.flatMap_cons, List.length_append, List.length_cons, Nat.succ_mul]
            have := List.length_filter_le (p a) vs2
            omega
        have h1 := hfl (vs1.take i)
        rw [List.length_take, Nat.min_eq_left hi] at h1
        have h2 : (i + 1) * vs2.length ≤ vs1.length * vs2.length := Nat.mul_le_mul_right _ hlt
        rw [Nat.succ_mul] at h2
        omega
      refine wpAny_bind (wpAny_runOwn ?_)
      have fin : ∀ h' tk m', (∀ b o, b ≠ J → b ≠ D → b ≠ C → h₄.get? b = some o → h'.get? b = some o) → h'.Ns C m' → h'.get? D = some (lst (((vs1.take i).flatMap fun v1 => vs2.filter (p v1)) ++ vs2.filter (p v))) →
          ∃ m, m < vs1.length + 1 - i ∧ ∃ h'' tk' m'' i', ({ s₁ with heap := h', toks := tk } : Shared) = { s₁ with heap := h'', toks := tk' } ∧ h''.IsListIter I l1 i' ∧ (∀ b o, s₁.heap.get? b = some o → h''.get? b = some o) ∧ h''.Ns C m'' ∧ h''.get? D = some (lst ((vs1.take i').flatMap fun v1 => vs2.filter (p v1))) ∧ i' ≤ vs1.length ∧ m = vs1.length + 1 - i' := by
        intro h5 tk5 m5 k5 n5 D5
        refine ⟨vs1.length + 1 - (i + 1), by omega, h5, tk5, m5, i + 1, rfl, hit₄.at fun o e => k5 _ _ nIJ (Ne.symm nDI) (Ne.symm nCI) e, fun b o e => k5 b o (by rintro rfl; rw [fJ] at e; cases e) (by rintro rfl; rw [fD] at e; cases e) (by rintro rfl; rw [fC] at e; cases e) (up₄ _ _ (keep₃ b o e)), n5, ?_, hlt, rfl⟩
        rw [List.take_add_one, hv]
        simpa using D5
      exact start_inner (inn _ fun h5 tk5 m5 k5 n5 D5 => wpAny_pure ⟨rfl, fin h5 tk5 m5 k5 n5 D5⟩) (fun E' => wpAny_pyIter_listiter ⟨_, hJ, rfl, rfl⟩ (inn _ fun h5 tk5 m5 k5 n5 D5 => wpAny_pure ⟨rfl, fin h5 tk5 m5 k5 n5 D5⟩))
  exact codeAny_compStart_list (loop _ rfl) (wpAny_pyIter_listiter ⟨_, hI3, rfl, rfl⟩ (loop _ rfl))
end
end
section
theorem strs_filterO {q : Str → Bool} : ∀ {vs : List Value} {ns : List Str}, StrsAre vs ns → StrsAre (vs.filter fun v => q (strOf v)) (ns.filter q)
  | _, _, .nil => .nil
  | _, _, .cons y t h => by
    rw [List.filter_cons, List.filter_cons, show strOf (Value.str y t) = y from rfl]
    cases q y with
    | true => exact .cons y t (strs_filterO h)
    | false => exact strs_filterO h
theorem strs_flat {vs2 : List Value} {names : List Str} (h2 : StrsAre vs2 names) : ∀ {vs1 : List Value} {globs : List Str}, StrsAre vs1 globs → StrsAre (vs1.flatMap fun v1 => vs2.filter fun v2 => saidS (strOf v1) (strOf v2)) (globs.flatMap fun g => names.filter (saidS g))
  | _, _, .nil => .nil
  | _, _, .cons y t h => by
    rw [List.flatMap_cons, List.flatMap_cons]
    exact StrsAre.append' (strs_filterO h2) (strs_flat h2 h)
theorem due_K {w : World} {s : Shared} {Q E : Value → Shared → Prop} {dp un : Nat} {gd : Option (List Code)} {cn : Str} {cs : Scope} {L a : Addr} {ccd : Value} {cl cl1 cl2 : List (Str × Addr)} {A₀ : Around} {base h₀ : Heap} {m : Str → Option Value} {mean : ExcName → Option Value} {mg mb : Str → Option Value}
    {W cN NN : Addr} {vs vn : List Value} {names : List Str} {tgt : List (List Str)} {nW nN : Nat} {oN : Obj} {iter : PySem.Expr} {q1 q2 q3 q4 q5 q6 q7 q8 q9 px pos pos2 : Pos} {scope scope2 : Scope}
    (B : Below A₀ base [] h₀) (F : Fr h₀ L s.heap m) (X : (tKf w.params).In h₀) (T : Top topProg loose mean mg mb h₀) (hk : cs.kind = .function) (h1 : dp + 20 < 1000) (h2 : un + 400 + 1000 < 9900)
    (N : News h₀ L s.heap [(W, listOf vs.toArray nW), (NN, listOf vn.toArray nN), (cN, oN)]) (hcN : oN.data = .cell (some (.ref NN))) (hvz : vs.length ≤ 100)
    (hvn : StrsAre vn names) (hnl : ∀ x ∈ names, x.length ≤ 10) (hnz : names.length ≤ 100)
    (src : ∀ (i : Nat) v, vs[i]? = some v → ∃ Wi vi ni nsi, v = .ref Wi ∧ s.heap.get? Wi = some (listOf (List.toArray vi) ni) ∧ tgt[i]? = some (nsi.flatMap fun g => names.filter (saidS g)) ∧ StrsAre vi nsi ∧ (∀ x ∈ nsi, x ∈ menu) ∧ nsi.length ≤ 10)
    (hiter : wpAny (model prog w) (ktrTop dp un gd cn cs L a ccd cl []) (eval iter (envX cn cs L a ccd cl)) (fun xv s₁ => xv = .ref W ∧ s₁ = s) E s)
    (hclos : closureFor scope (envX cn cs L a ccd cl) = pure cl1) (hcell : ∀ z ∈ scope.names, z.2 ≠ .cell) (hkind : scope.kind = .function) (hnames : ∀ z ∈ scope.names, z.2 = .local → scope.names.lookup z.1 = some .local) (hx : scope.names.lookup (Str.ofString "line") = some .local)
    (k3 : (relabel scope (envX cn cs L a ccd cl)).names.lookup (Str.ofString "line") = some .local)
    (hclos2 : ∀ C, closureFor scope2 (compEnvC scope cl1 C (envX cn cs L a ccd cl)) = pure cl2) (hcell2 : ∀ z ∈ scope2.names, z.2 ≠ .cell) (hkind2 : scope2.kind = .function) (hnames2 : ∀ z ∈ scope2.names, z.2 = .local → scope2.names.lookup z.1 = some .local)
    (hx2 : scope2.names.lookup (Str.ofString "glob") = some .local) (hy2 : scope2.names.lookup (Str.ofString "name") = some .local)
    (j1 : ∀ C, (relabel scope2 (compEnvC scope cl1 C (envX cn cs L a ccd cl))).names.lookup (Str.ofString "_law_said") = some .globalImplicit) (j2 : ∀ C, (relabel scope2 (compEnvC scope cl1 C (envX cn cs L a ccd cl))).names.lookup (Str.ofString "names") = some .cell)
    (j3 : ∀ C, (relabel scope2 (compEnvC scope cl1 C (envX cn cs L a ccd cl))).names.lookup (Str.ofString "glob") = some .local) (j4 : ∀ C, (relabel scope2 (compEnvC scope cl1 C (envX cn cs L a ccd cl))).names.lookup (Str.ofString "name") = some .local)
    (hcl : cl2.lookup (Str.ofString "names") = some cN)
    (hs : ∀ x, foldedSetIterable iter (envX cn cs L a ccd cl) x = pure x)
    (done : ∀ D ys bad h' tk', Kp s.heap h' → s.heap.get? D = none → D ∈ bad → h'.get? D = some { cls := .type "list", data := .seq (List.toArray ys) ys.length } → ys.length = vs.length → MadeL s.heap h' bad tgt ys → Q (.ref D) { s with heap := h', toks := tk' }) :
    wpAny (model prog w) (ktrTop dp un gd cn cs L a ccd cl []) (eval (PySem.Expr.ListComp (.ListComp (.Name (Str.ofString "name") q1) [⟨.Name (Str.ofString "glob") q2, .Name (Str.ofString "line") q3, [], 0⟩, ⟨.Name (Str.ofString "name") q4, .Name (Str.ofString "names") q5, [.Call (.Name (Str.ofString "_law_said") q6) [.Name (Str.ofString "glob") q7, .Name (Str.ofString "name") q8] [] q9], 0⟩] scope2 pos2) [⟨.Name (Str.ofString "line") px, iter, [], 0⟩] scope pos) (envX cn cs L a ccd cl)) Q E s := by
  have zW := N (W, listOf vs.toArray nW) (by k_mem)
  have zN := N (NN, listOf vn.toArray nN) (by k_mem)
  have zc := N (cN, oN) (by k_mem)
  have T1 := topRead_of T
  refine compS (l := W) (vs := vs) (fun bad i ys (s₁ : Shared) => ys.length = i ∧ (∀ b ∈ bad, s.heap.get? b = none) ∧ (∃ h' tk', s₁ = { s with heap := h', toks := tk' }) ∧ Kp s.heap s₁.heap ∧ MadeL s.heap s₁.heap bad tgt ys)
    rfl hclos hcell hkind hnames hx hiter (by rw [sizeLine_eq]; omega) ?hl ?J0 ?stab ?elem ?done hs
  case hl =>
    rintro bad i ys s₁ ⟨_, _, _, kx, _⟩
    exact ⟨_, kx W _ zW.1, rfl, _, rfl⟩
  case J0 =>
    intro bad hbad
    exact ⟨rfl, hbad, ⟨_, _, rfl⟩, fun _ _ e => e, .nil⟩
  case stab =>
    rintro bad i ys s₁ h' tk hY71z k
    refine and5 hY71z ?_
    intro c1 c2 hZ72z c6 c7
    clear hY71z
    refine ex2 hZ72z ?_
    intro h3 tk3 hR74z
    clear hZ72z
    subst hR74z
    exact ⟨c1, c2, ⟨_, _, rfl⟩, fun b o e => k b o (fun hb => by rw [c2 b hb] at e; cases e) (c6 b o e), c7.keep fun b o _ hb e => k b o hb e⟩
  case done =>
    rintro bad D ys s₁ hY75z hD hD2 hlen
    refine and5 hY75z ?_
    intro c1 c2 hZ76z c6 c7
    clear hY75z
    refine ex2 hZ76z ?_
    intro h3 tk3 hR78z
    clear hZ76z
    subst hR78z
    exact done D ys bad h3 tk3 c6 (c2 D hD) hD hD2 hlen c7
  case elem =>
    rintro bad C i v ys s₁ m₁ E' hY79z hv hn hm hC hbad
    refine and5 hY79z ?_
    intro c1 c2 hZ80z c6 c7
    clear hY79z
    refine ex2 hZ80z ?_
    intro h3 tk3 hR82z
    clear hZ80z
    subst hR82z
    dsimp only at c6 c7 hn hbad
    refine ex4 (src i v hv) ?_
    intro Wi vi ni nsi hZ83z
    refine and6 hZ83z ?_
    intro hR84z zi hti hSi hmi hzi
    clear hZ83z
    subst hR84z
    have kWi := c6 _ _ zi
    have kNN := c6 _ _ zN.1
    have hlen2 : vn.length = names.length := hvn.length
    have hlen1 : vi.length = nsi.length := hSi.length
    refine comp2 (l1 := Wi) (l2 := NN) (vs1 := vi) (vs2 := vn) (fun v1 v2 => saidS (strOf v1) (strOf v2)) rfl (hclos2 C) hcell2 hkind2 hnames2 hx2 hy2 (by decide) ?hit ⟨_, kWi, rfl, _, rfl⟩ ⟨_, kNN, rfl, _, rfl⟩ ?hit2 ?htest ?helt ?hsz ?hdone
    case hit => exact ldVarK hn hm ⟨rfl, rfl⟩ hkind k3 (by decide)
    case hit2 =>
      intro C2 s₂ m₂ E2 k2 n2
      exact ldCellK hcl ⟨oN, k2 _ _ (c6 _ _ zc.1), hcN⟩ ⟨rfl, rfl⟩ hkind2 (j2 C) (by decide)
    case helt =>
      intro C2 v s₂ m₂ E2 n2 hm2
      exact ldVarK n2 hm2 ⟨rfl, rfl⟩ hkind2 (j4 C) (by decide)
    case hsz =>
      rw [sizeLine_eq, hlen1, hlen2]
      exact Nat.le_trans (Nat.mul_le_mul hzi hnz) (by decide)
    case htest =>
      intro C2 i1 v1 i2 v2 s₂ m₂ E2 e1 e2 k2 n2 hx1 hy1
      refine ex2 (hSi.item i1 v1 e1) ?_
      intro glob tg hZ85z
      refine and2 hZ85z ?_
      intro hR86z hg
      clear hZ85z
      subst hR86z
      refine ex2 (hvn.item i2 v2 e2) ?_
      intro name tn hZ87z
      refine and2 hZ87z ?_
      intro hR88z hnm
      clear hZ87z
      subst hR88z
      have F2 : Fr h₀ L s₂.heap m := F.keeps fun b o e => k2 b o (c6 b o e)
      refine isTrue_plain ?_
      refine Call_Name2 ?_ rfl
      k_dflt (refine nameG_K (v := .ref 826) F2 X T1 (by k_is) ?_ rfl hkind2 (j1 C) (by decide))
      refine callWith_K (e := PySem.Expr.Name (Str.ofString "glob") q7) (rest := [PySem.Expr.Name (Str.ofString "name") q8]) X (by k_is) ?_
      refine spliced_more ?_
      refine ldVarK n2 hx1 ?_ hkind2 (j3 C) (by decide)
      refine spliced_more ?_
      refine ldVarK n2 hy1 ?_ hkind2 (j4 C) (by decide)
      refine spliced_none ?_
      refine ⟨X.keeps F2.keep, ?_⟩
      have hcx : Cx w (ktrTop dp un gd cn cs L a ccd cl []) s₂.heap 1 := ⟨dp, un, gd, cn, cs, L, a, ccd, cl, [], A₀, base, h₀, m, mean, mg, mb, rfl, B, F2, X, T, hk, by omega, by omega⟩
      exact said_spec hcx (hnl name (List.mem_of_getElem? hnm)) (hmi glob (List.mem_of_getElem? hg)) fun h' tk' kp => wpAny_truthy_bool ⟨rfl, h', tk', rfl, kp⟩
    case hdone =>
      intro D h' tk kp fD hD
      dsimp only at kp fD
      have fDs : s.heap.get? D = none := by
        cases e : s.heap.get? D with
        | none => rfl
        | some o => rw [c6 _ _ e] at fD; cases fD
      refine ⟨⟨by rw [List.length_append, List.length_singleton, c1], c2, ⟨_, _, rfl⟩, fun b o e => kp b o (c6 b o e), c7.snoc (fun b o _ _ e => kp b o e) (by rw [c1]; exact hti) fD fDs (fun q => ?_) hD (strs_flat hvn hSi)⟩, fun b hb' => ?_⟩
      · obtain ⟨o, ho⟩ := hbad D q
        rw [fD] at ho; cases ho
      · obtain ⟨o, ho⟩ := hbad b hb'
        exact (kp b o ho).trans ho.symm
end
section
noncomputable def wordOf (z : Int) : Str := menu.getD (z.fmod 8).toNat (Str.mk #[])
theorem paired_strs {f : Int → Str} : ∀ {xs : List Int} {vs ys : List Value}, Paired (fun v y => ∃ z t t', v = Value.int z t ∧ y = Value.str (f z) t') vs ys → IntsAre vs xs → StrsAre ys (xs.map f) := by
  intro xs vs ys h
  induction h generalizing xs with
  | nil => intro hi; cases hi; exact .nil
  | cons h1 _ ih =>
    intro hi
    cases hi with
    | cons k t hi =>
      obtain ⟨z, t1, t2, e1, e2⟩ := h1
      cases e1
      subst e2
      exact .cons _ _ (ih hi)
theorem same_list {us vs : List Value} (hl : us.length = vs.length) (h : ∀ (j : Nat) v, us[j]? = some v → vs[j]? = some v) : us = vs := by
  apply List.ext_getElem? 
  intro j
  cases e : us[j]? with
  | some v => exact (h j v e).symm
  | none =>
    rw [List.getElem?_eq_none_iff] at e
    exact (List.getElem?_eq_none_iff.mpr (by omega)).symm
theorem words_spec {w : World} {A : Around} {s : Shared} {Q E : Value → Shared → Prop} {l : Addr} {vs : List Value} {xs : List Int} {n : Nat} (hc : CxN w A s.heap 2 [(l, listOf vs.toArray n)]) (hv : IntsAre vs xs) (hz : xs.length ≤ 10)
    (hQ : ∀ D ys k h' tk', Kx [l] s.heap h' → s.heap.get? D = none → h'.get? l = some (listOf vs.toArray n) → h'.get? D = some (listOf ys.toArray k) → StrsAre ys (xs.map wordOf) → Q (.ref D) { s with heap := h', toks := tk' }) :
    wpAny (model prog w) A (call (.ref 807) [.ref l]) Q E s := by
  obtain ⟨dp, un, gd, cn, cs, L, a, ccd, cl, outer, A₀, base, h₀, m, mean, mg, mb, rfl, B, F, X, T, hk, h1, h2, N⟩ := hc
  refine wpAny_call ?_
  k_dflt (refine' code_defCG ?k1 ?k2 ?k3 ?k4 ?k5 ?kA ?kF ?kK ?k6 ?k7 ?k8 ?k9 ?kB ?kD ?_ ?c2 ?c3 ?c4; (case kA => exact rfl); (case kF => exact rfl); (case kK => assumption); (case k1 => k_asm); (case k2 => k_asm); (case k3 => k_asm); (case k4 => k_asm); (case k5 => k_asm); (case k6 => k_is); (case k7 => k_is); (case k8 => exact room (by assumption)); (case k9 => first | exact BindsTo.of_eq rfl | exact binds_K (by k_in) rfl (by k_is) rfl rfl rfl); (case kB => exact rfl); (case kD => decide +kernel); (case c2 => exact rfl); (case c3 => exact rfl); (case c4 => exact rfl); k_whole; intro _ _ _ _ _ _ _ N' Y' _ _ _ lL _; (try k_lt lL); k_cells Y'; (try simp only [List.cons_append, List.nil_append] at N'); (try dsimp only))
  (try k_fold)
  (repeat' ((fail_if_success (with_reducible show wpAny _ _ (eval (PySem.Expr.ListComp _ _ _ _) _) _ _ _)); (first | (k_unfold; (try dsimp only)) | ((first | ((with_reducible show wpAny _ _ (eval (PySem.Expr.Name _ _) (compEnvC _ _ _ _)) _ _ _); first | (refine ldVarK (by assumption) (by assumption) ?_) | (refine ldCellK rfl (by assumption) ?_)) | fail "none")) | walk1 | dsimp only)))
  rename_i g L' h1 tk1 FG BB XX TT GS o1 d1 l1 h2 ll h3 o2 F1 N1 dM
  have F1a : Fr g L' h3 _ := F1
  have N1a : News g L' h3 [(l1, _), (L' + 1, o2), (l, listOf vs.toArray n)] := N1
  clear F1 N1
  obtain ⟨ll1, ll2⟩ := ll
  obtain ⟨vM, N1b, hmv⟩ : ∃ vM : List Value, News g L' h3 [(l1, listOf vM.toArray 0), (L' + 1, o2), (l, listOf vs.toArray n)] ∧ StrsAre vM menu := ⟨_, N1a, .cons _ _ (.cons _ _ (.cons _ _ (.cons _ _ (.cons _ _ (.cons _ _ (.cons _ _ (.cons _ _ .nil)))))))⟩
  clear N1a
  refine' compL (n := xs.length) (P := fun i v => vs[i]? = some v) (fun _ => true) (fun v y => ∃ z t t', v = Value.int z t ∧ y = Value.str (wordOf z) t') F1a N1b ?cc ?ccell rfl ?cnames rfl ?csrc ?cq ?cdone
  case cc => rfl
  case ccell => decide +kernel
  case cnames => decide +kernel
  case csrc =>
    (repeat' ((fail_if_success (with_reducible show wpAny _ _ (pyIter _) _ _ _)); (first | (k_unfold; (try dsimp only)) | ((first | ((with_reducible show wpAny _ _ (eval (PySem.Expr.Name _ _) (compEnvC _ _ _ _)) _ _ _); first | (refine ldVarK (by assumption) (by assumption) ?_) | (refine ldCellK rfl (by assumption) ?_)) | fail "none")) | walk1 | dsimp only)))
    have hl3 : h3.IsList l vs.toArray := ⟨_, (N1b (l, listOf vs.toArray n) (by k_mem)).1, rfl, _, rfl⟩
    rw [← hv.length]
    refine src_list rfl rfl (fun _ _ e => e) (Nat.le_refl _) hl3 ?_
    rw [hv.length, sizeLine_eq]; omega
  case cq =>
    refine ⟨fun C i v s₃ m₃ E' hP hn3 hm3 F12 N12 => ?_, fun C i v s₃ m₃ E' hP hp hn3 hm3 F12 N12 => ?_⟩
    · exact wpAny_pure ⟨rfl, _, _, rfl, fun _ _ e => e⟩
    · obtain ⟨z, t, rfl, he⟩ := hv.at i v hP
      have hcM : s₃.heap.IsCell (L' + 1) (some (.ref l1)) := ⟨_, (N12 (L' + 1, o2) (by k_mem)).1, dM⟩
      have hlM : s₃.heap.IsList l1 vM.toArray := ⟨_, (N12 (l1, listOf vM.toArray 0) (by k_mem)).1, rfl, _, rfl⟩
      have h8 : 0 ≤ z.fmod 8 ∧ z.fmod 8 < 8 := ⟨Int.fmod_nonneg_of_pos z (by decide), Int.fmod_lt_of_pos z (by decide)⟩
      refine Subscript_ (ldCellK rfl hcM (wpAny_BinOp (ldVarK hn3 hm3 (wpAny_Constant_int (mod_int (by decide) ?_)))))
      refine sub_hit (i := (z.fmod 8).toNat) (x := wordOf z) hlM hmv (by omega) ?_ (by decide) fun t' => ?_
      · have hlt : (z.fmod 8).toNat < menu.length := by show _ < 8; omega
        unfold wordOf
        rw [List.getD_eq_getElem?_getD, List.getElem?_eq_getElem hlt]; rfl
      · exact ⟨⟨z, t, _, rfl, rfl⟩, _, _, rfl, fun _ _ e => e⟩
  case cdone =>
    intro D h' tk' ys us kk F' N' l1' hlen2 hP hF
    have F13 : Fr g L' h' _ := F'
    have N13 : News g L' h' _ := N'
    clear F' N'
    (repeat' (first | (k_unfold; (try dsimp only)) | (k_end; wrow_close) | ((first | ((with_reducible show wpAny _ _ (eval (PySem.Expr.Name _ _) (compEnvC _ _ _ _)) _ _ _); first | (refine ldVarK (by assumption) (by assumption) ?_) | (refine ldCellK rfl (by assumption) ?_)) | fail "none")) | walk1 | dsimp only | (leave1; walk_say "STEP leave1"; try dsimp only) | fail "no step"))
    have e1 : us = vs := same_list (by rw [hlen2, hv.length]) hP
    subst e1
    rw [List.filter_eq_self.mpr (fun _ _ => rfl)] at hF
    have zD := N13 (D, listOf ys.toArray kk) (.head _)
    refine hQ D ys kk h' tk' (fun b o hb e => F13.keep b o (GS b o e (by simpa using hb))) ?_ (N13 (l, listOf us.toArray n) (by k_mem)).1 zD.1 (paired_strs hF hv)
    cases q : s.heap.get? D with
    | none => rfl
    | some o =>
      have := GS _ _ q (by simpa using (l1' (l, listOf us.toArray n) (by k_mem)).symm)
      rw [zD.2.2] at this; cases this
end
section
open PySem.SeqAt
noncomputable abbrev sD (ss : List Str) : PyData := .list (ss.map .str)
noncomputable def OkS (ss : List Str) : Prop := ∀ x ∈ ss, PyData.strOk x = true
theorem reads_strs {h : Heap} {l : Addr} {vs : List Value} {ss : List Str} (hl : h.IsList l vs.toArray) (hS : StrsAre vs ss) : Reads h (.ref l) (sD ss) [l] := by
  obtain ⟨o, ho, hc, n, hd⟩ := hl
  exact .list ho hc hd (hS.reads h)
theorem reads_two {h : Heap} {l a b : Addr} {da db : PyData} {as bs : List Addr} (hl : h.IsList l #[.ref a, .ref b]) (ra : Reads h (.ref a) da as) (rb : Reads h (.ref b) db bs) : ∃ cs, Reads h (.ref l) (.list [da, db]) cs := by
  obtain ⟨o, ho, hc, n, hd⟩ := hl
  exact ⟨_, .list ho hc hd (.cons ra (.cons rb .nil))⟩
theorem reads_pair {h : Heap} {T a b : Addr} {n : Nat} {da db : PyData} {as bs : List Addr} (hT : h.get? T = some { cls := .type "tuple", data := .seq #[.ref a, .ref b] n }) (ra : Reads h (.ref a) da as) (rb : Reads h (.ref b) db bs) : ∃ cs, Reads h (.ref T) (.tuple [da, db]) cs :=
  ⟨_, .tuple hT rfl rfl (.cons ra (.cons rb .nil))⟩
theorem eqv_strs : ∀ ss : List Str, PyData.eqvAll (ss.map .str) (ss.map .str) = true
  | [] => by simp [PyData.eqvAll]
  | x :: r => by simp [PyData.eqvAll, PyData.eqv, eqv_strs r]
theorem eqv_two (x y : List Str) : PyData.eqvAll [sD x, sD y] [sD x, sD y] = true := by
  simp [PyData.eqvAll, PyData.eqv, eqv_strs]
theorem lay_strs : ∀ {ss : List Str}, OkS ss → PyData.canLayAll0 (ss.map .str) = true
  | [], _ => by simp [PyData.canLayAll0]
  | x :: r, h => by
    have h1 : PyData.strOk x = true := h x (.head _)
    have h2 := lay_strs (ss := r) fun z hz => h z (.tail _ hz)
    simp [PyData.canLayAll0, PyData.canLay0, h1, h2]
theorem lay_two {x y : List Str} (hx : OkS x) (hy : OkS y) : PyData.canLayAll0 [sD x, sD y] = true := by
  simp [PyData.canLayAll0, PyData.canLay0, lay_strs hx, lay_strs hy]
theorem dep_strs : ∀ (ss : List Str), PyData.depthAll (ss.map .str) = 0
  | [] => by simp [PyData.depthAll]
  | x :: r => by simp [PyData.depthAll, PyData.depth, dep_strs r]
theorem shaped_two {x y : List Str} (hx : OkS x) (hy : OkS y) : shaped (.list [sD x, sD y]) = true := by
  simp [shaped, PyData.canLay0, lay_two hx hy, PyData.depth, PyData.depthAll, dep_strs]
theorem shaped_pair {x y : List Str} (hx : OkS x) (hy : OkS y) : shaped (.tuple [sD x, sD y]) = true := by
  simp [shaped, PyData.canLay0, lay_two hx hy, PyData.depth, PyData.depthAll, dep_strs]
section
variable {prog : Program} {w : World} {A : Around} {E : Value → Shared → Prop} {s : Shared} {Q : Value → Shared → Prop} {l a b l' a' b' : Addr} {va vb va' vb' : List Value} {x y : List Str}
theorem ne_lists (hl : s.heap.IsList l #[.ref a, .ref b]) (ha : s.heap.IsList a va.toArray) (hb : s.heap.IsList b vb.toArray) (hl' : s.heap.IsList l' #[.ref a', .ref b']) (ha' : s.heap.IsList a' va'.toArray) (hb' : s.heap.IsList b' vb'.toArray)
    (ia : StrsAre va x) (ib : StrsAre vb y) (ia' : StrsAre va' x) (ib' : StrsAre vb' y) (hx : OkS x) (hy : OkS y) (hu : A.units + 64 < cLine) (h : Q (.bool false) s) : wpAny (model prog w) A (compareOp .NotEq (.ref l) (.ref l')) Q E s := by
  obtain ⟨c1, r1⟩ := reads_two hl (reads_strs ha ia) (reads_strs hb ib)
  obtain ⟨c2, r2⟩ := reads_two hl' (reads_strs ha' ia') (reads_strs hb' ib')
  refine ne_dataH r1 r2 (shaped_two hx hy) (shaped_two hx hy) hu ?_
  rw [show PyData.eqv (.list [sD x, sD y]) (.list [sD x, sD y]) = true by rw [PyData.eqv]; exact eqv_two x y]
  exact h
theorem ne_pairs {n n' : Nat} (hl : s.heap.get? l = some { cls := .type "tuple", data := .seq #[.ref a, .ref b] n }) (ha : s.heap.IsList a va.toArray) (hb : s.heap.IsList b vb.toArray) (hl' : s.heap.get? l' = some { cls := .type "tuple", data := .seq #[.ref a', .ref b'] n' }) (ha' : s.heap.IsList a' va'.toArray) (hb' : s.heap.IsList b' vb'.toArray)
    (ia : StrsAre va x) (ib : StrsAre vb y) (ia' : StrsAre va' x) (ib' : StrsAre vb' y) (hx : OkS x) (hy : OkS y) (hu : A.units + 64 < cLine) (h : Q (.bool false) s) : wpAny (model prog w) A (compareOp .NotEq (.ref l) (.ref l')) Q E s := by
  obtain ⟨c1, r1⟩ := reads_pair hl (reads_strs ha ia) (reads_strs hb ib)
  obtain ⟨c2, r2⟩ := reads_pair hl' (reads_strs ha' ia') (reads_strs hb' ib')
  refine ne_dataH r1 r2 (shaped_pair hx hy) (shaped_pair hx hy) hu ?_
  rw [show PyData.eqv (.tuple [sD x, sD y]) (.tuple [sD x, sD y]) = true by rw [PyData.eqv]; exact eqv_two x y]
  exact h
theorem eq_pairs {n n' : Nat} (hl : s.heap.get? l = some { cls := .type "tuple", data := .seq #[.ref a, .ref b] n }) (ha : s.heap.IsList a va.toArray) (hb : s.heap.IsList b vb.toArray) (hl' : s.heap.get? l' = some { cls := .type "tuple", data := .seq #[.ref a', .ref b'] n' }) (ha' : s.heap.IsList a' va'.toArray) (hb' : s.heap.IsList b' vb'.toArray)
    (ia : StrsAre va x) (ib : StrsAre vb y) (ia' : StrsAre va' x) (ib' : StrsAre vb' y) (hx : OkS x) (hy : OkS y) (hu : A.units + 64 < cLine) (h : Q (.bool true) s) : wpAny (model prog w) A (compareOp .Eq (.ref l) (.ref l')) Q E s := by
  obtain ⟨c1, r1⟩ := reads_pair hl (reads_strs ha ia) (reads_strs hb ib)
  obtain ⟨c2, r2⟩ := reads_pair hl' (reads_strs ha' ia') (reads_strs hb' ib')
  refine eq_dataH r1 r2 (shaped_pair hx hy) (shaped_pair hx hy) hu ?_
  rw [show PyData.eqv (.tuple [sD x, sD y]) (.tuple [sD x, sD y]) = true by rw [PyData.eqv]; exact eqv_two x y]
  exact h
theorem any_dec (k : Str) : ∀ ns : List Str, (ns.any fun y => y == k) = decide (k ∈ ns)
  | [] => by simp
  | y :: r => by
    rw [List.any_cons, any_dec k r]
    by_cases h : y = k
    · subst h; simp
    · have h' : ¬ k = y := fun e => h e.symm
      simp [h, h']
theorem in_strs {k : Str} {t : Tok} {vs : List Value} {ns : List Str} (hl : s.heap.IsList l vs.toArray) (hS : StrsAre vs ns) (h : Q (.bool (decide (k ∈ ns))) s) : wpAny (model prog w) A (compareOp .In (.str k t) (.ref l)) Q E s :=
  in_list_strs hl hS (by rw [any_dec]; exact h)
theorem notin_strs {k : Str} {t : Tok} {vs : List Value} {ns : List Str} (hl : s.heap.IsList l vs.toArray) (hS : StrsAre vs ns) (h : Q (.bool (!decide (k ∈ ns))) s) : wpAny (model prog w) A (compareOp .NotIn (.str k t) (.ref l)) Q E s :=
  notin_list_strs hl hS (by rw [any_dec]; exact h)
end
end
section
section
variable {w : World} {A : Around} {E : Value → Shared → Prop} {env : Env}
/-- [x for x in l if test], over strs -/
theorem selK {s : Shared} {iter c : PySem.Expr} {x : Str} {px p0 : Pos} {scope : Scope} {cl : List (Str × Addr)} {pos : Pos} {Q : Value → Shared → Prop} (R : List Str → Prop) (q : Str → Bool)
    (hh : A.handled = none) (hclos : closureFor scope env = pure cl) (hcell : ∀ z ∈ scope.names, z.2 ≠ .cell) (hkind : scope.kind = .function)
    (hnames : ∀ z ∈ scope.names, z.2 = .local → scope.names.lookup z.1 = some .local) (hx : scope.names.lookup x = some .local) (hxl : (relabel scope env).names.lookup x = some .local) (hxd : (x == ("__debug__" : Str)) = false)
    (hsrc : wpAny (model Mine.prog w) A (eval iter env) (fun xv s₁ => ∃ l vs ns h₁ tk₁, xv = .ref l ∧ s₁ = { s with heap := h₁, toks := tk₁ } ∧ Kp s.heap h₁ ∧ s.heap.objs.size ≤ h₁.objs.size ∧ h₁.IsList l (List.toArray vs) ∧ StrsAre vs ns ∧ vs.length ≤ 1000 ∧ R ns) E s)
    (htest : ∀ C (y : Str) t (s₃ : Shared) m₃ E', s₃.heap.Ns C m₃ → m₃ x = some (.str y t) → Kp s.heap s₃.heap → wpAny (model Mine.prog w) A (isTrue c (compEnvC scope cl C env) (eval c (compEnvC scope cl C env))) (fun ok s₄ => ok = q y ∧ Keeps s₃ s₄) E' s₃)
    (done : ∀ D h' tk' ys k ns, R ns → Kp s.heap h' → s.heap.get? D = none → h'.get? D = some (listOf (List.toArray ys) k) → StrsAre ys (ns.filter q) → Q (.ref D) { s with heap := h', toks := tk' })
    (hs : ∀ x, foldedSetIterable iter env x = pure x) :
    wpAny (model Mine.prog w) A (eval (.ListComp (.Name x p0) [⟨.Name x px, iter, [c], 0⟩] scope pos) env) Q E s := by
  refine wpAny_ListComp_free (fun v => q (strOf v)) (fun v y => v = y) hclos hcell hkind hnames hx (wpAny_mono hsrc (fun xv s₁ hY1 => ?_) fun _ _ e => e) hs
  refine ex5 hY1 ?_
  intro l vs ns h₁ tk₁ hZ111z
  clear hY1
  refine and8 hZ111z ?_
  intro hR112z hR113z k hsz hl hS hn hR
  clear hZ111z
  subst hR112z
  subst hR113z
  refine wpAny_mono (src_list hh rfl k hsz hl (by rw [sizeLine_eq]; omega)) (fun it s₂ hY2 => ?_) fun _ _ e => e
  refine ex6 hY2 ?_
  intro h₂ tk₂ I fp wr St hZ114z
  clear hY2
  refine and8 hZ114z ?_
  intro hR115z hR116z W hsz2 hst hfp hwr k2
  clear hZ114z
  subst hR115z
  subst hR116z
  have up : ∀ {h3 : Heap}, (∀ b o, b ∉ wr → h₂.get? b = some o → h3.get? b = some o) → Kp s.heap h3 := fun hk b o e => hk b o (fun hb => Nat.lt_irrefl _ (Nat.lt_of_lt_of_le (Heap.lt_size e) (hwr b hb))) (k2 b o e)
  refine ⟨I, fp, wr, vs.length, fun i v => vs[i]? = some v, St, rfl, W, hsz2, hst, hfp, ⟨fun C i v s₃ m₃ E' _ hP hn3 hm hk _ => ?_, fun C i v s₃ m₃ E' _ hP hp hn3 hm hk _ => ?_⟩, ?_⟩
  · obtain ⟨y, t, rfl, _⟩ := hS.item i v hP
    exact wpAny_tests_one (htest C y t s₃ m₃ E' hn3 hm (up hk))
  · exact ldVarK hn3 hm ⟨rfl, s₃.heap, s₃.toks, rfl, fun _ _ e => e⟩ hkind hxl hxd
  · intro D h' tk ys vs' hD hlD ⟨kk, hD'⟩ hlen hP hF hk
    have e1 : vs' = vs := same_list hlen hP
    subst e1
    have e2 := paired_eq hF
    refine done D h' tk ys.toList kk ns hR (up hk) ?_ (by simpa using hD') ?_
    · cases e : s.heap.get? D with
      | none => rfl
      | some o =>
        have e3 := k2 _ _ e
        rw [show h₂.get? D = none from hD] at e3
        cases e3
    · rw [← e2]; exact strs_filterO hS
theorem sub_ref {value slice : PySem.Expr} {l : Addr} {vs : List Value} {i : Nat} {k : Int} {v : Value} {u : Tok} {s : Shared} {Q : Value → Shared → Prop} (hl : s.heap.IsList l vs.toArray) (hk : k = (i : Nat)) (hx : vs[i]? = some v) (hz : i ≤ 1000)
    (h : Q v s)
    (hs : subscripted slice false (.ref l) (.int k u) = operate [.ref l, .int k u] (getItem (.ref l) (.int k u)) := by with_unfolding_all rfl) :
    wpAny (model Mine.prog w) A (subscriptTail value slice (.ref l) (.int k u)) Q E s := by
  subst hk
  exact tail_any hl.typeIs slot_list_getitem.lookup (wpAny_getItem_list hl (by omega) (by omega) (by simpa using hx) h) hs
end
/-- [name for name in sorted(names) if name in due[k]] -/
theorem first_K {w : World} {s : Shared} {Q E : Value → Shared → Prop} {dp un : Nat} {gd : Option (List Code)} {cn : Str} {cs : Scope} {L a : Addr} {ccd : Value} {cl cl1 : List (Str × Addr)} {k : Nat}
    {cD DD Dk : Addr} {vD vk : List Value} {nk : List Str} {oD : Obj} {nD kn : Nat} {iter : PySem.Expr} {q1 q2 q3 q4 q5 q6 q7 pos : Pos} {kd : _} {scope : Scope} (R : List Str → Prop)
    (zc : s.heap.get? cD = some oD) (hcD : oD.data = .cell (some (.ref DD))) (zD : s.heap.get? DD = some (listOf vD.toArray nD)) (hvD : vD[k]? = some (.ref Dk)) (zk : s.heap.get? Dk = some (listOf vk.toArray kn)) (hvk : StrsAre vk nk) (hk9 : k ≤ 9)
    (hclos : closureFor scope (envX cn cs L a ccd cl) = pure cl1) (hcell : ∀ z ∈ scope.names, z.2 ≠ .cell) (hkind : scope.kind = .function) (hnames : ∀ z ∈ scope.names, z.2 = .local → scope.names.lookup z.1 = some .local) (hx : scope.names.lookup (Str.ofString "name") = some .local)
    (k1 : (relabel scope (envX cn cs L a ccd cl)).names.lookup (Str.ofString "name") = some .local) (k2 : (relabel scope (envX cn cs L a ccd cl)).names.lookup (Str.ofString "due") = some .cell) (hcl : cl1.lookup (Str.ofString "due") = some cD)
    (hsrc : wpAny (model prog w) (ktrTop dp un gd cn cs L a ccd cl []) (eval iter (envX cn cs L a ccd cl)) (fun xv s₁ => ∃ l vs ns h₁ tk₁, xv = .ref l ∧ s₁ = { s with heap := h₁, toks := tk₁ } ∧ Kp s.heap h₁ ∧ s.heap.objs.size ≤ h₁.objs.size ∧ h₁.IsList l (List.toArray vs) ∧ StrsAre vs ns ∧ vs.length ≤ 1000 ∧ R ns) E s)
    (hs : ∀ x, foldedSetIterable iter (envX cn cs L a ccd cl) x = pure x)
    (done : ∀ D h' tk' ys n ns, R ns → Kp s.heap h' → s.heap.get? D = none → h'.get? D = some (listOf (List.toArray ys) n) → StrsAre ys (ns.filter fun y => decide (y ∈ nk)) → Q (.ref D) { s with heap := h', toks := tk' }) :
    wpAny (model prog w) (ktrTop dp un gd cn cs L a ccd cl []) (eval (.ListComp (.Name (Str.ofString "name") q1) [⟨.Name (Str.ofString "name") q2, iter, [.Compare (.Name (Str.ofString "name") q3) [.In] [.Subscript (.Name (Str.ofString "due") q4) (.Constant (.int (k : Int)) kd q5) q6] q7], 0⟩] scope pos) (envX cn cs L a ccd cl)) Q E s := by
  refine selK R (fun y => decide (y ∈ nk)) rfl hclos hcell hkind hnames hx k1 (by decide) hsrc (fun C y t s₃ m₃ E' hn hm kp => ?_) done hs
  refine wpAny_isTrue_Compare1 ?_
  refine ldVarK hn hm ?_ hkind k1 (by decide)
  refine Subscript_ (ldCellK hcl ⟨oD, kp _ _ zc, hcD⟩ (wpAny_Constant_int ?_) hkind k2 (by decide))
  refine sub_ref (i := k) (v := .ref Dk) ⟨_, kp _ _ zD, rfl, _, rfl⟩ rfl hvD (by omega) ?_
  exact in_strs ⟨_, kp _ _ zk, rfl, _, rfl⟩ hvk (wpAny_truthy_bool ⟨rfl, s₃.heap, _, rfl, fun _ _ e => e⟩)
/-- [name for name in first if name not in second] -/
theorem alone_K {w : World} {s : Shared} {Q E : Value → Shared → Prop} {dp un : Nat} {gd : Option (List Code)} {cn : Str} {cs : Scope} {L a : Addr} {ccd : Value} {cl cl1 : List (Str × Addr)} {xo : Str}
    {l cO lO : Addr} {vs vO : List Value} {ns nO : List Str} {oO : Obj} {n nn : Nat} {iter : PySem.Expr} {q1 q2 q3 q4 q7 pos : Pos} {scope : Scope}
    (zc : s.heap.get? cO = some oO) (hcO : oO.data = .cell (some (.ref lO))) (zO : s.heap.get? lO = some (listOf vO.toArray nn)) (hvO : StrsAre vO nO) (zl : s.heap.get? l = some (listOf vs.toArray n)) (hvs : StrsAre vs ns) (hz : vs.length ≤ 1000)
    (hclos : closureFor scope (envX cn cs L a ccd cl) = pure cl1) (hcell : ∀ z ∈ scope.names, z.2 ≠ .cell) (hkind : scope.kind = .function) (hnames : ∀ z ∈ scope.names, z.2 = .local → scope.names.lookup z.1 = some .local) (hx : scope.names.lookup (Str.ofString "name") = some .local)
    (k1 : (relabel scope (envX cn cs L a ccd cl)).names.lookup (Str.ofString "name") = some .local) (k2 : (relabel scope (envX cn cs L a ccd cl)).names.lookup xo = some .cell) (hcl : cl1.lookup xo = some cO) (hxo : (xo == ("__debug__" : Str)) = false)
    (hiter : wpAny (model prog w) (ktrTop dp un gd cn cs L a ccd cl []) (eval iter (envX cn cs L a ccd cl)) (fun xv s₁ => xv = .ref l ∧ s₁ = s) E s)
    (hs : ∀ x, foldedSetIterable iter (envX cn cs L a ccd cl) x = pure x)
    (done : ∀ D h' tk' ys n, Kp s.heap h' → s.heap.get? D = none → h'.get? D = some (listOf (List.toArray ys) n) → StrsAre ys (outF ns nO) → Q (.ref D) { s with heap := h', toks := tk' }) :
    wpAny (model prog w) (ktrTop dp un gd cn cs L a ccd cl []) (eval (.ListComp (.Name (Str.ofString "name") q1) [⟨.Name (Str.ofString "name") q2, iter, [.Compare (.Name (Str.ofString "name") q3) [.NotIn] [.Name xo q4] q7], 0⟩] scope pos) (envX cn cs L a ccd cl)) Q E s := by
  refine selK (fun z => z = ns) (fun y => !decide (y ∈ nO)) rfl hclos hcell hkind hnames hx k1 (by decide) (wpAny_mono hiter (fun xv s₁ h₁ => ?_) fun _ _ e => e) (fun C y t s₃ m₃ E' hn hm kp => ?_) ?_ hs
  · obtain ⟨rfl, rfl⟩ := h₁
    exact ⟨l, vs, ns, _, _, rfl, rfl, fun _ _ e => e, Nat.le_refl _, ⟨_, zl, rfl, _, rfl⟩, hvs, hz, rfl⟩
  · refine wpAny_isTrue_Compare1 ?_
    refine ldVarK hn hm ?_ hkind k1 (by decide)
    refine ldCellK hcl ⟨oO, kp _ _ zc, hcO⟩ ?_ hkind k2 hxo
    exact notin_strs ⟨_, kp _ _ zO, rfl, _, rfl⟩ hvO (wpAny_truthy_bool ⟨rfl, s₃.heap, _, rfl, fun _ _ e => e⟩)
  · rintro D h' tk' ys n ns' rfl kp fD hD hS
    refine done D h' tk' ys n kp fD hD ?_
    unfold outF
    have e : (fun x => !nO.contains x) = fun y => !decide (y ∈ nO) := by funext y; simp
    rw [e]; exact hS
end
section
theorem openedF_len (names : List Str) : ∀ gs : List Str, (openedF gs names).length ≤ gs.length * names.length
  | [] => Nat.zero_le _
  | g :: gs => by
    have h1 := openedF_len names gs
    have h2 := List.length_filter_le (opensS g) names
    show (names.filter (opensS g) ++ openedF gs names).length ≤ _
    rw [List.length_append, List.length_cons, Nat.succ_mul]; omega
theorem openedF_mid {globs names : List Str} {i j : Nat} {glob : Str} {vO : List Value} (hO : StrsAre vO (openedF (globs.take i) names ++ (names.take j).filter (opensS glob))) (hi : i < globs.length) (hj : j ≤ names.length) (hsz : globs.length * names.length ≤ 1000) : vO.length ≤ 1000 := by
  have h1 := openedF_len names (globs.take i)
  have h2 := List.length_filter_le (opensS glob) (names.take j)
  rw [hO.length, List.length_append]
  rw [List.length_take] at h1 h2
  have h3 : (i + 1) * names.length ≤ globs.length * names.length := Nat.mul_le_mul_right _ hi
  rw [Nat.succ_mul] at h3
  rw [Nat.min_eq_left (Nat.le_of_lt hi)] at h1
  omega
theorem opened_spec {w : World} {A : Around} {s : Shared} {Q E : Value → Shared → Prop} {l ln : Addr} {vl vn : List Value} {globs names : List Str} {ps : Array Value} (hc : CxN w A s.heap 4 [(77, tabObj ps)]) (hok : TabOk posL ps)
    (hl : s.heap.IsList l vl.toArray) (hvl : StrsAre vl globs) (hn : s.heap.IsList ln vn.toArray) (hvn : StrsAre vn names) (hl7 : l ≠ 77) (hn7 : ln ≠ 77) (hglobs : ∀ x ∈ globs, x ∈ menu) (hnames : ∀ x ∈ names, x.length ≤ 10) (hsz : globs.length * names.length ≤ 1000)
    (h : ∀ P vs n ps' h' tk', Kx [77] s.heap h' → s.heap.get? P = none → h'.get? P = some (listOf vs.toArray n) → StrsAre vs (openedF globs names) → h'.get? 77 = some (tabObj ps') → TabOk posL ps' → Q (.ref P) { s with heap := h', toks := tk' }) :
    wpAny (model prog w) A (call (.ref 819) [.ref l, .ref ln]) Q E s := by
  obtain ⟨dp, un, gd, cn, cs, L0, a, ccd, cl, outer, A₀, base, h₀, m, mean, mg, mb, rfl, B, F, X, T, hk, h1, h2, N⟩ := hc
  refine wpAny_call ?_
  k_dflt (refine' code_defCG ?k1 ?k2 ?k3 ?k4 ?k5 ?kA ?kF ?kK ?k6 ?k7 ?k8 ?k9 ?kB ?kD ?_ ?c2 ?c3 ?c4; (case kA => exact rfl); (case kF => exact rfl); (case kK => assumption); (case k1 => k_asm); (case k2 => k_asm); (case k3 => k_asm); (case k4 => k_asm); (case k5 => k_asm); (case k6 => k_is); (case k7 => k_is); (case k8 => exact room (by assumption)); (case k9 => exact BindsTo.of_eq rfl); (case kB => exact rfl); (case kD => decide +kernel); (case c2 => exact rfl); (case c3 => exact rfl); (case c4 => exact rfl); k_whole; intro _ _ _ _ _ _ _ N' Y' _ _ _ l1 _; (try k_lt l1); k_cells Y'; (try simp only [List.cons_append, List.nil_append] at N'); (try dsimp only))
  k_unmd
  k_fold
  (repeat' (first | (k_unfold; (try dsimp only)) | (k_end; wrow_close) | ((with_reducible show wpAny _ _ (execs (_ :: _) _) _ _ _); first | k_gentoks | ((with_reducible refine wpAny_execs_cons ?_); k_fold)) | ((first | ((with_reducible show wpAny _ _ (storeName _ _ _) _ _ _); k_dflt (refine' storeX_M ?Fz ?Nz ?_ ?az ?bz; (case Fz => k_asm); (case Nz => k_asm); (case az => rfl); (case bz => rfl); k_whole; intro _ _ _ _; (try k_sweep))) | ((with_reducible show wpAny _ _ (eval (PySem.Expr.Name _ _) (compEnvC _ _ _ _)) _ _ _); first | (refine ldVarK (by assumption) (by assumption) ?_) | (refine ldCellK rfl (by assumption) ?_)) | (first | (with_reducible refine wpAny_is_ref_self ?_) | ((with_reducible show wpAny _ _ (compareOp CmpOp.Is (Value.str _ _) (Value.ref _)) _ _ _); refine wpAny_is_other rfl (by intro e; cases e) ?_)) | fail "none")) | walk1 | dsimp only | (leave1; walk_say "STEP leave1"; try dsimp only) | fail "no step"))
  rename_i g L h0 tk0 _ _ _ _ GS o1 o2 o3 d1 d2 d3 _ _ _ _ S h3 l2 h4 _ _ _ _ O h5 l3 h6 _ F1 N1
  have hlg : g.IsList l vl.toArray := hl.at fun o e => GS _ _ e (by simpa using hl7)
  have hng : g.IsList ln vn.toArray := hn.at fun o e => GS _ _ e (by simpa using hn7)
  refine wpAny_For ?_
  first | ((first | ((with_reducible show wpAny _ _ (storeName _ _ _) _ _ _); k_dflt (refine' storeX_M ?Fz ?Nz ?_ ?az ?bz; (case Fz => k_asm); (case Nz => k_asm); (case az => rfl); (case bz => rfl); k_whole; intro _ _ _ _; (try k_sweep))) | ((with_reducible show wpAny _ _ (eval (PySem.Expr.Name _ _) (compEnvC _ _ _ _)) _ _ _); first | (refine ldVarK (by assumption) (by assumption) ?_) | (refine ldCellK rfl (by assumption) ?_)) | (first | (with_reducible refine wpAny_is_ref_self ?_) | ((with_reducible show wpAny _ _ (compareOp CmpOp.Is (Value.str _ _) (Value.ref _)) _ _ _); refine wpAny_is_other rfl (by intro e; cases e) ?_)) | fail "none")) | walk1
  refine loopS (σ := List Value × Nat × Array Value × Obj × Obj × Obj) (fun c => [(O, listOf c.1.toArray c.2.1), (L + 1 + 1 + 1, c.2.2.2.1), (L + 1 + 1, c.2.2.2.2.1), (L + 1, c.2.2.2.2.2), (77, tabObj c.2.2.1)]) [(S, listOf #[Value.str (Str.ofString "a star of the law's own") tk0] 0)]
    [Str.ofString "glob", Str.ofString "parts"] [O, L + 1 + 1 + 1, L + 1 + 1, L + 1, 77]
    (fun i c => StrsAre c.1 (openedF (globs.take i) names) ∧ TabOk posL c.2.2.1 ∧ (∃ v, c.2.2.2.1.data = .cell v) ∧ (∃ v, c.2.2.2.2.1.data = .cell v) ∧ (∃ v, c.2.2.2.2.2.data = .cell v))
    ([], 0, ps, o1, o2, o3) rfl (.inl hlg) F1 ?n (fun _ => rfl) ⟨.nil, hok, ⟨_, d1⟩, ⟨_, d2⟩, ⟨_, d3⟩⟩ ?t ?d
  case n => exact news_sub N1 (by kd_inAll)
  case d =>
    rintro ⟨vO2, nO2, ps3, r1, r2, r3⟩ u18 h18 tk18 hY1z F18 N18
    refine and5 hY1z ?_
    intro hO2 hok3 d1 d2 d3
    clear hY1z
    have F19 : Fr g L h18 _ := F18
    have N19 : News g L h18 [(O, listOf vO2.toArray nO2), (L + 1 + 1 + 1, r1), (L + 1 + 1, r2), (L + 1, r3), (77, tabObj ps3), (S, listOf #[Value.str (Str.ofString "a star of the law's own") tk0] 0)] := N18
    clear F18 N18
    dsimp only
    (repeat' (first | (k_unfold; (try dsimp only)) | (k_end; wrow_close) | ((with_reducible show wpAny _ _ (execs (_ :: _) _) _ _ _); first | k_gentoks | ((with_reducible refine wpAny_execs_cons ?_); k_fold)) | ((first | ((with_reducible show wpAny _ _ (storeName _ _ _) _ _ _); k_dflt (refine' storeX_M ?Fz ?Nz ?_ ?az ?bz; (case Fz => k_asm); (case Nz => k_asm); (case az => rfl); (case bz => rfl); k_whole; intro _ _ _ _; (try k_sweep))) | ((with_reducible show wpAny _ _ (eval (PySem.Expr.Name _ _) (compEnvC _ _ _ _)) _ _ _); first | (refine ldVarK (by assumption) (by assumption) ?_) | (refine ldCellK rfl (by assumption) ?_)) | (first | (with_reducible refine wpAny_is_ref_self ?_) | ((with_reducible show wpAny _ _ (compareOp CmpOp.Is (Value.str _ _) (Value.ref _)) _ _ _); refine wpAny_is_other rfl (by intro e; cases e) ?_)) | fail "none")) | walk1 | dsimp only | (leave1; walk_say "STEP leave1"; try dsimp only) | fail "no step"))
    rw [hvl.length, List.take_length] at hO2
    exact ret_listT h GS F19 N19 (by k_mem) (by refine neN ?_; omega) (by k_mem) hok3 hO2
  rintro i v ⟨vO, nO, ps1, p1, p2, p3⟩ u h7 tk7 I oI hv hY501z hI1 hI2 F2 N2
  refine and5 hY501z ?_
  intro hO hok1 hZ502z hZ503z hZ504z
  clear hY501z
  refine ex1 hZ502z ?_
  intro c1 e1
  clear hZ502z
  refine ex1 hZ503z ?_
  intro c2 e2
  clear hZ503z
  refine ex1 hZ504z ?_
  intro c3 e3
  clear hZ504z
  have hI : @LT.lt Nat _ O I ∧ @LT.lt Nat _ (L + 1 + 1 + 1) I ∧ @LT.lt Nat _ (L + 1 + 1) I ∧ @LT.lt Nat _ (L + 1) I ∧ @LT.lt Nat _ 77 I ∧ @LT.lt Nat _ S I := ⟨hI1 _ (by simp), hI1 _ (by simp), hI1 _ (by simp), hI1 _ (by simp), hI1 _ (by simp), hI2 _ (.head _)⟩
  clear hI1 hI2
  refine ex2 (hvl.item i v hv) ?_
  intro glob tg hZ2z
  refine and2 hZ2z ?_
  intro hR3z hglob
  clear hZ2z
  subst hR3z
  have hgm : glob ∈ menu := hglobs _ (List.mem_of_getElem? hglob)
  have F3 : Fr g L h7 _ := F2
  have N3 : News g L h7 [(I, oI), (O, listOf vO.toArray nO), (L + 1 + 1 + 1, p1), (L + 1 + 1, p2), (L + 1, p3), (77, tabObj ps1), (S, listOf #[Value.str (Str.ofString "a star of the law's own") tk0] 0)] := N2
  clear F1 N1 F2 N2
  refine wpAny_assign_Name ?_
  k_unmd
  k_fold
  repeat' ((fail_if_success (with_reducible show wpAny _ _ (call (Value.ref 82) _) _ _ _)); (first | (k_unfold; (try dsimp only)) | ((first | ((with_reducible show wpAny _ _ (storeName _ _ _) _ _ _); k_dflt (refine' storeX_M ?Fz ?Nz ?_ ?az ?bz; (case Fz => k_asm); (case Nz => k_asm); (case az => rfl); (case bz => rfl); k_whole; intro _ _ _ _; (try k_sweep))) | ((with_reducible show wpAny _ _ (eval (PySem.Expr.Name _ _) (compEnvC _ _ _ _)) _ _ _); first | (refine ldVarK (by assumption) (by assumption) ?_) | (refine ldCellK rfl (by assumption) ?_)) | (first | (with_reducible refine wpAny_is_ref_self ?_) | ((with_reducible show wpAny _ _ (compareOp CmpOp.Is (Value.str _ _) (Value.ref _)) _ _ _); refine wpAny_is_other rfl (by intro e; cases e) ?_)) | fail "none")) | walk1 | dsimp only))
  (with_reducible rename Fr _ _ _ _ => kF9)
  (with_reducible rename News _ _ _ _ => kN9)
  k_dflt (refine' tr_K ?k0 kF9 kN9 ?k3 ?k4 ?k5 ?k6 ?k7 ?_; (case k3 => k_updF); (case k0 => exact cxN_deeper (by assumption) kF9 (by assumption) (by assumption) (by rfl) (by omega) (by omega) (news_one kN9 (by k_mem))); (case k4 => is_list); (case k5 => (refine neN ?_; omega)); (case k6 => assumption); (case k7 => assumption); k_whole)
  intro P vs2 n2 ps2 h8 tk8 F4 N4 l4 hpa hok2
  (try dsimp only at N4)
  replace l4 := gnNe_of l4
  (try simp only [GnNe, and_true] at l4)
  clear kF9 kN9
  (repeat' (first | (k_unfold; (try dsimp only)) | (k_end; wrow_close) | ((with_reducible show wpAny _ _ (execs (_ :: _) _) _ _ _); first | k_gentoks | ((with_reducible refine wpAny_execs_cons ?_); k_fold)) | ((first | ((with_reducible show wpAny _ _ (storeName _ _ _) _ _ _); k_dflt (refine' storeX_M ?Fz ?Nz ?_ ?az ?bz; (case Fz => k_asm); (case Nz => k_asm); (case az => rfl); (case bz => rfl); k_whole; intro _ _ _ _; (try k_sweep))) | ((with_reducible show wpAny _ _ (eval (PySem.Expr.Name _ _) (compEnvC _ _ _ _)) _ _ _); first | (refine ldVarK (by assumption) (by assumption) ?_) | (refine ldCellK rfl (by assumption) ?_)) | (first | (with_reducible refine wpAny_is_ref_self ?_) | ((with_reducible show wpAny _ _ (compareOp CmpOp.Is (Value.str _ _) (Value.ref _)) _ _ _); refine wpAny_is_other rfl (by intro e; cases e) ?_)) | fail "none")) | walk1 | dsimp only | (leave1; walk_say "STEP leave1"; try dsimp only) | fail "no step"))
  rename_i h9 _ F4 N4
  have l5 : @LT.lt Nat _ 77 L := by omega
  refine wpAny_For ?_
  first | ((first | ((with_reducible show wpAny _ _ (storeName _ _ _) _ _ _); k_dflt (refine' storeX_M ?Fz ?Nz ?_ ?az ?bz; (case Fz => k_asm); (case Nz => k_asm); (case az => rfl); (case bz => rfl); k_whole; intro _ _ _ _; (try k_sweep))) | ((with_reducible show wpAny _ _ (eval (PySem.Expr.Name _ _) (compEnvC _ _ _ _)) _ _ _); first | (refine ldVarK (by assumption) (by assumption) ?_) | (refine ldCellK rfl (by assumption) ?_)) | (first | (with_reducible refine wpAny_is_ref_self ?_) | ((with_reducible show wpAny _ _ (compareOp CmpOp.Is (Value.str _ _) (Value.ref _)) _ _ _); refine wpAny_is_other rfl (by intro e; cases e) ?_)) | fail "none")) | walk1
  refine loopS (σ := List Value × Nat × Obj × Obj × Obj) (fun c => [(O, listOf c.1.toArray c.2.1), (L + 1 + 1 + 1, c.2.2.1), (L + 1 + 1, c.2.2.2.1), (L + 1, c.2.2.2.2)]) [(P, listOf vs2.toArray n2), (I, oI), (77, tabObj ps2), (S, listOf #[Value.str (Str.ofString "a star of the law's own") tk0] 0)]
    [] [O, L + 1 + 1 + 1, L + 1 + 1, L + 1]
    (fun j c => StrsAre c.1 (openedF (globs.take i) names ++ (names.take j).filter (opensS glob)) ∧ (∃ v, c.2.2.1.data = .cell v) ∧ (∃ v, c.2.2.2.1.data = .cell v) ∧ (∃ v, c.2.2.2.2.data = .cell v))
    (vO, nO, p1, p2, p3) rfl (.inl hng) F4 ?nn (fun _ => rfl) ⟨by simpa using hO, ⟨c1, e1⟩, ⟨c2, e2⟩, ⟨c3, e3⟩⟩ ?tt ?dd
  case nn => exact news_sub N4 (by kd_inAll)
  case dd =>
    rintro ⟨vO2, nO2, r1, r2, r3⟩ u18 h18 tk18 hY4z F18 N18
    refine and4 hY4z ?_
    intro hO2 d1 d2 d3
    clear hY4z
    have F19 : Fr g L h18 _ := F18
    have N19 : News g L h18 [(O, listOf vO2.toArray nO2), (L + 1 + 1 + 1, r1), (L + 1 + 1, r2), (L + 1, r3), (P, listOf vs2.toArray n2), (I, oI), (77, tabObj ps2), (S, listOf #[Value.str (Str.ofString "a star of the law's own") tk0] 0)] := N18
    clear F18 N18
    dsimp only
    (repeat' (first | (k_unfold; (try dsimp only)) | (k_end; wrow_close) | ((with_reducible show wpAny _ _ (execs (_ :: _) _) _ _ _); first | k_gentoks | ((with_reducible refine wpAny_execs_cons ?_); k_fold)) | ((first | ((with_reducible show wpAny _ _ (storeName _ _ _) _ _ _); k_dflt (refine' storeX_M ?Fz ?Nz ?_ ?az ?bz; (case Fz => k_asm); (case Nz => k_asm); (case az => rfl); (case bz => rfl); k_whole; intro _ _ _ _; (try k_sweep))) | ((with_reducible show wpAny _ _ (eval (PySem.Expr.Name _ _) (compEnvC _ _ _ _)) _ _ _); first | (refine ldVarK (by assumption) (by assumption) ?_) | (refine ldCellK rfl (by assumption) ?_)) | (first | (with_reducible refine wpAny_is_ref_self ?_) | ((with_reducible show wpAny _ _ (compareOp CmpOp.Is (Value.str _ _) (Value.ref _)) _ _ _); refine wpAny_is_other rfl (by intro e; cases e) ?_)) | fail "none")) | walk1 | dsimp only | (leave1; walk_say "STEP leave1"; try dsimp only) | fail "no step"))
    refine ⟨(vO2, nO2, ps2, r1, r2, r3), h18, _, _, rfl, ?_, F19, news_sub N19 (by kd_inAll), ?_, hok2, d1, d2, d3⟩
    · intro y hy
      have q1 : y ≠ Str.ofString "parts" := by rintro rfl; exact absurd hy (by decide +kernel)
      have q2 : y ≠ Str.ofString "glob" := by rintro rfl; exact absurd hy (by decide +kernel)
      dsimp +zetaDelta only
      rw [if_neg (by simp), if_neg q1, if_neg q2, if_neg (by rw [hy]; simp)]
    · show StrsAre vO2 (openedF (globs.take (i + 1)) names)
      rw [hvn.length, List.take_length] at hO2
      rw [List.take_add_one, hglob]
      simpa [openedF, List.flatMap_append] using hO2
  clear e1 e2 e3 c1 c2 c3 hO N4
  rintro j v ⟨vO, nO, p1, p2, p3⟩ u5 h10 tk10 I2 oI2 hv2 hY508z hI1 hI2 F5 N5
  refine and4 hY508z ?_
  intro hO hZ509z hZ510z hZ511z
  clear hY508z
  refine ex1 hZ509z ?_
  intro c1 e1
  clear hZ509z
  refine ex1 hZ510z ?_
  intro c2 e2
  clear hZ510z
  refine ex1 hZ511z ?_
  intro c3 e3
  clear hZ511z
  have hJ : @LT.lt Nat _ O I2 ∧ @LT.lt Nat _ (L + 1 + 1 + 1) I2 ∧ @LT.lt Nat _ (L + 1 + 1) I2 ∧ @LT.lt Nat _ (L + 1) I2 ∧ @LT.lt Nat _ P I2 ∧ @LT.lt Nat _ I I2 ∧ @LT.lt Nat _ 77 I2 ∧ @LT.lt Nat _ S I2 := ⟨hI1 _ (by simp), hI1 _ (by simp), hI1 _ (by simp), hI1 _ (by simp), hI2 _ (.head _), hI2 _ (.tail _ (.head _)), hI2 _ (.tail _ (.tail _ (.head _))), hI2 _ (.tail _ (.tail _ (.tail _ (.head _))))⟩
  clear hI1 hI2
  refine ex2 (hvn.item j v hv2) ?_
  intro name tn hZ5z
  refine and2 hZ5z ?_
  intro hR6z hname
  clear hZ5z
  subst hR6z
  have hnl : name.length ≤ 10 := hnames _ (List.mem_of_getElem? hname)
  have F6 : Fr g L h10 _ := F5
  have N6 : News g L h10 [(I2, oI2), (O, listOf vO.toArray nO), (L + 1 + 1 + 1, p1), (L + 1 + 1, p2), (L + 1, p3), (P, listOf vs2.toArray n2), (I, oI), (77, tabObj ps2), (S, listOf #[Value.str (Str.ofString "a star of the law's own") tk0] 0)] := N5
  clear F4 F5 N5
  refine wpAny_assign_Name ?_
  k_unmd
  k_fold
  (repeat' (first | (k_unfold; (try dsimp only)) | (k_end; wrow_close) | ((with_reducible show wpAny _ _ (execs (_ :: _) _) _ _ _); first | k_gentoks | ((with_reducible refine wpAny_execs_cons ?_); k_fold)) | ((first | ((with_reducible show wpAny _ _ (storeName _ _ _) _ _ _); k_dflt (refine' storeX_M ?Fz ?Nz ?_ ?az ?bz; (case Fz => k_asm); (case Nz => k_asm); (case az => rfl); (case bz => rfl); k_whole; intro _ _ _ _; (try k_sweep))) | ((with_reducible show wpAny _ _ (eval (PySem.Expr.Name _ _) (compEnvC _ _ _ _)) _ _ _); first | (refine ldVarK (by assumption) (by assumption) ?_) | (refine ldCellK rfl (by assumption) ?_)) | (first | (with_reducible refine wpAny_is_ref_self ?_) | ((with_reducible show wpAny _ _ (compareOp CmpOp.Is (Value.str _ _) (Value.ref _)) _ _ _); refine wpAny_is_other rfl (by intro e; cases e) ?_)) | fail "none")) | walk1 | dsimp only | (leave1; walk_say "STEP leave1"; try dsimp only) | fail "no step"))
  rename_i h11 oN dN _ _ E h12 lE h13 oE F7 N7 dE
  have hlE := hJ
  have g1 : IntsAre [Value.int 0 tk10] [0] := .cons _ _ .nil
  obtain ⟨k, hk3⟩ : ∃ k, k = (E : Nat) := ⟨_, rfl⟩
  refine wpAny_For ?_
  first | ((first | ((with_reducible show wpAny _ _ (storeName _ _ _) _ _ _); k_dflt (refine' storeX_M ?Fz ?Nz ?_ ?az ?bz; (case Fz => k_asm); (case Nz => k_asm); (case az => rfl); (case bz => rfl); k_whole; intro _ _ _ _; (try k_sweep))) | ((with_reducible show wpAny _ _ (eval (PySem.Expr.Name _ _) (compEnvC _ _ _ _)) _ _ _); first | (refine ldVarK (by assumption) (by assumption) ?_) | (refine ldCellK rfl (by assumption) ?_)) | (first | (with_reducible refine wpAny_is_ref_self ?_) | ((with_reducible show wpAny _ _ (compareOp CmpOp.Is (Value.str _ _) (Value.ref _)) _ _ _); refine wpAny_is_other rfl (by intro e; cases e) ?_)) | fail "none")) | walk1
  refine loopL (l := P) (vs := vs2) (m₀ := _) (news₀ := [(E, listOf #[Value.int 0 tk10] 0), (L + 1 + 1 + 1, p1), (L + 1 + 1, oE), (I2, oI2), (O, listOf vO.toArray nO), (L + 1, oN), (P, listOf vs2.toArray n2), (I, oI), (77, tabObj ps2), (S, listOf #[Value.str (Str.ofString "a star of the law's own") tk0] 0)])
    (fun k m news => m = _ ∧ ∃ E ws nE oP oE, news = [(E, listOf (List.toArray ws) nE), (L + 1 + 1 + 1, oP), (L + 1 + 1, oE), (I2, oI2), (O, listOf vO.toArray nO), (L + 1, oN), (P, listOf vs2.toArray n2), (I, oI), (77, tabObj ps2), (S, listOf #[Value.str (Str.ofString "a star of the law's own") tk0] 0)] ∧
      (@Ne Nat (L + 1 + 1 + 1) E ∧ @Ne Nat (L + 1 + 1) E ∧ @Ne Nat I2 E ∧ @Ne Nat O E ∧ @Ne Nat (L + 1) E ∧ @Ne Nat P E ∧ @Ne Nat I E ∧ @Ne Nat 77 E ∧ @Ne Nat S E) ∧ (∃ v, oP.data = .cell v) ∧ oE.data = .cell (some (.ref E)) ∧ IntsAre ws (((partsOf glob).take k).foldl (endsStep name) [0]))
    rfl F7 ?nnn ⟨rfl, E, _, 0, p1, oE, rfl, ?ddd, ⟨c1, e1⟩, dE, g1⟩ ?lll ?ttt ?done3
  case nnn => exact news_sub N7 (by kd_inAll)
  case ddd =>
    obtain ⟨q1, q2, q3, q4, q5, q6, q7, q8, q9⟩ := lE
    exact ⟨Nat.ne_of_lt q3, Nat.ne_of_lt q4, Nat.ne_of_lt q1, Nat.ne_of_lt q2, Nat.ne_of_lt q5, Nat.ne_of_lt q6, Nat.ne_of_lt q7, Nat.ne_of_lt q8, Nat.ne_of_lt q9⟩
  case lll =>
    rintro h m news i ⟨_, E', ws, nE, oP, oE', rfl, _⟩ _ N
    exact ⟨_, (N (P, listOf vs2.toArray n2) (by k_mem)).1, rfl, _, rfl⟩
  case done3 =>
    rintro m news h17 tk17 hY7z F8 N8
    refine and2 hY7z ?_
    intro hR8z hZ9z
    clear hY7z
    subst hR8z
    refine ex5 hZ9z ?_
    intro E2 ws nE2 oP oE2 hZ10z
    clear hZ9z
    refine and5 hZ10z ?_
    intro hR11z hq hZ12z dE2 hws
    clear hZ10z
    subst hR11z
    refine ex1 hZ12z ?_
    intro cP dP
    clear hZ12z
    rw [hpa.length, List.take_length] at hws
    have F9 : Fr g L h17 _ := F8
    have N9 : News g L h17 [(E2, listOf ws.toArray nE2), (L + 1 + 1 + 1, oP), (L + 1 + 1, oE2), (I2, oI2), (O, listOf vO.toArray nO), (L + 1, oN), (P, listOf vs2.toArray n2), (I, oI), (77, tabObj ps2), (S, listOf #[Value.str (Str.ofString "a star of the law's own") tk0] 0)] := N8
    clear F7 N7 F8 N8
    dsimp only
    (repeat' ((fail_if_success (with_reducible show wpAny _ _ (compareOp CmpOp.In _ _) _ _ _)); (first | (k_unfold; (try dsimp only)) | ((with_reducible show wpAny _ _ (execs (_ :: _) _) _ _ _); first | k_gentoks | ((with_reducible refine wpAny_execs_cons ?_); k_fold)) | ((first | ((with_reducible show wpAny _ _ (storeName _ _ _) _ _ _); k_dflt (refine' storeX_M ?Fz ?Nz ?_ ?az ?bz; (case Fz => k_asm); (case Nz => k_asm); (case az => rfl); (case bz => rfl); k_whole; intro _ _ _ _; (try k_sweep))) | ((with_reducible show wpAny _ _ (eval (PySem.Expr.Name _ _) (compEnvC _ _ _ _)) _ _ _); first | (refine ldVarK (by assumption) (by assumption) ?_) | (refine ldCellK rfl (by assumption) ?_)) | (first | (with_reducible refine wpAny_is_ref_self ?_) | ((with_reducible show wpAny _ _ (compareOp CmpOp.Is (Value.str _ _) (Value.ref _)) _ _ _); refine wpAny_is_other rfl (by intro e; cases e) ?_)) | fail "none")) | walk1 | dsimp only)))
    have hlE : h17.IsList E2 ws.toArray := ⟨_, (N9 (E2, listOf ws.toArray nE2) (by k_mem)).1, rfl, _, rfl⟩
    refine in_list_ints hlE hws (wpAny_truthy_bool ?_)
    dsimp only
    split
    all_goals rename_i hin
    · clear hlE
      have hvO : vO.length ≤ 1000 := openedF_mid hO (List.getElem?_eq_some_iff.mp hglob).1 (Nat.le_of_lt (List.getElem?_eq_some_iff.mp hname).1) hsz
      (repeat' ((fail_if_success (with_reducible show wpAny _ _ (call (Value.builtin "list.append") _) _ _ _)); (first | (k_unfold; (try dsimp only)) | ((with_reducible show wpAny _ _ (execs (_ :: _) _) _ _ _); first | k_gentoks | ((with_reducible refine wpAny_execs_cons ?_); k_fold)) | ((first | ((with_reducible show wpAny _ _ (storeName _ _ _) _ _ _); k_dflt (refine' storeX_M ?Fz ?Nz ?_ ?az ?bz; (case Fz => k_asm); (case Nz => k_asm); (case az => rfl); (case bz => rfl); k_whole; intro _ _ _ _; (try k_sweep))) | ((with_reducible show wpAny _ _ (eval (PySem.Expr.Name _ _) (compEnvC _ _ _ _)) _ _ _); first | (refine ldVarK (by assumption) (by assumption) ?_) | (refine ldCellK rfl (by assumption) ?_)) | (first | (with_reducible refine wpAny_is_ref_self ?_) | ((with_reducible show wpAny _ _ (compareOp CmpOp.Is (Value.str _ _) (Value.ref _)) _ _ _); refine wpAny_is_other rfl (by intro e; cases e) ?_)) | fail "none")) | walk1 | dsimp only)))
      show wpAny _ _ (call (Value.builtin "list.append") [Value.ref O, Value.str name tn]) _ _ _
      refine' append_K ?k1 ?k2 ?ku (fun h20 F20 N20 => ?_) ?kz
      case k1 => assumption
      case k2 => assumption
      case ku => k_upd
      case kz => rw [sizeLine_eq]; simp; omega
      refine wpAny_execs_nil ?_
      try dsimp only
      refine wpAny_execs_nil ?_
      try dsimp only
      refine ⟨(vO ++ [Value.str name tn], nO + 1, oP, oE2, oN), h20, _, _, rfl, ?_, F20, ?_, ?_, ⟨_, dP⟩, ⟨_, dE2⟩, ⟨_, dN⟩⟩
      · intro y hy; dsimp +zetaDelta only; rw [if_neg (by simp)]
      · have e : (vO ++ [Value.str name tn]).toArray = vO.toArray.push (Value.str name tn) := by simp
        show News g L h20 [(I2, oI2), (O, listOf (vO ++ [Value.str name tn]).toArray (nO + 1)), (L + 1 + 1 + 1, oP), (L + 1 + 1, oE2), (L + 1, oN), (P, listOf vs2.toArray n2), (I, oI), (77, tabObj ps2), (S, listOf #[Value.str (Str.ofString "a star of the law's own") tk0] 0)]
        rw [e]
        exact news_sub N20 (by kd_inAll)
      · show StrsAre (vO ++ [Value.str name tn]) (openedF (globs.take i) names ++ (names.take (j + 1)).filter (opensS glob))
        have hf : opensS glob name = true := by
          simp only [opensS, decide_eq_true_eq]
          obtain ⟨z, hz, e⟩ := List.any_eq_true.mp hin
          rw [show (name.length : Int) = z from (eq_of_beq e).symm]
          exact hz
        rw [List.take_add_one, hname, List.filter_append, ← List.append_assoc]
        have := StrsAre.append' hO (.cons name tn .nil)
        simpa [hf] using this
    · refine wpAny_execs_nil ?_
      try dsimp only
      refine wpAny_execs_nil ?_
      try dsimp only
      rename News _ _ _ _ => N21
      refine ⟨(vO, nO, oP, oE2, oN), h17, _, _, rfl, ?_, (by assumption), news_sub N21 (by kd_inAll), ?_, ⟨_, dP⟩, ⟨_, dE2⟩, ⟨_, dN⟩⟩
      · intro y hy; dsimp +zetaDelta only; rw [if_neg (by simp)]
      · show StrsAre vO (openedF (globs.take i) names ++ (names.take (j + 1)).filter (opensS glob))
        have hf : opensS glob name = false := by
          simp only [opensS, decide_eq_false_iff_not]
          intro hc
          exact hin (List.any_eq_true.mpr ⟨_, hc, by simp⟩)
        rw [List.take_add_one, hname, List.filter_append]
        simpa [hf] using hO
  rintro k v m news h14 tk14 I3 oI3 hI hv3 hY14z hn3 F8 N8
  refine and2 hY14z ?_
  intro hR15z hZ16z
  clear hY14z
  subst hR15z
  refine ex5 hZ16z ?_
  intro E2 ws nE2 oP oE2 hZ17z
  clear hZ16z
  refine and5 hZ17z ?_
  intro hR18z hZ19z hZ20z dE2 hws
  clear hZ17z
  subst hR18z
  refine and9 hZ19z ?_
  intro q1 q2 q3 q4 q5 q6 q7 q8 q9
  clear hZ19z
  refine ex1 hZ20z ?_
  intro cP dP
  clear hZ20z
  have hK : @LT.lt Nat _ (L + 1 + 1 + 1) I3 ∧ @LT.lt Nat _ (L + 1 + 1) I3 ∧ @LT.lt Nat _ I2 I3 ∧ @LT.lt Nat _ O I3 ∧ @LT.lt Nat _ (L + 1) I3 ∧ @LT.lt Nat _ P I3 ∧ @LT.lt Nat _ I I3 ∧ @LT.lt Nat _ 77 I3 ∧ @LT.lt Nat _ S I3 :=
    ⟨hI (L + 1 + 1 + 1, p1) (by k_mem), hI (L + 1 + 1, oE) (by k_mem), hI (I2, oI2) (by k_mem), hI (O, _) (by k_mem), hI (L + 1, _) (by k_mem), hI (P, _) (by k_mem), hI (I, _) (by k_mem), hI (77, _) (by k_mem), hI (S, _) (by k_mem)⟩
  have hE3 : @Ne Nat E2 I3 := hn3 _ (.head _)
  clear hI hn3
  have F9 : Fr g L h14 _ := F8
  have N9 : News g L h14 [(I3, oI3), (E2, listOf ws.toArray nE2), (L + 1 + 1 + 1, oP), (L + 1 + 1, oE2), (I2, oI2), (O, listOf vO.toArray nO), (L + 1, oN), (P, listOf vs2.toArray n2), (I, oI), (77, tabObj ps2), (S, listOf #[Value.str (Str.ofString "a star of the law's own") tk0] 0)] := N8
  clear F7 N7 F8 N8
  obtain ⟨hends, hlen⟩ := ends_ok name ((partsOf glob).take k) [0] (by simp) (by simp)
  have hstep := fun a (ha : (partsOf glob)[k]? = some a) => take_foldl (endsStep name) [0] (partsOf glob) k a ha
  generalize hEs : List.foldl (endsStep name) [0] (List.take k (partsOf glob)) = Es at hws hends hlen hstep
  rcases hpa.get hv3 with ⟨rfl, hp3⟩ | ⟨x, tx, rfl, hp3⟩
  · dsimp only
    refine wpAny_assign_Name ?_
    k_unmd
    k_fold
    (repeat' ((fail_if_success (with_reducible show wpAny _ _ (eval (PySem.Expr.ListComp _ _ _ _) _) _ _ _)); (first | (k_unfold; (try dsimp only)) | ((with_reducible show wpAny _ _ (execs (_ :: _) _) _ _ _); first | k_gentoks | ((with_reducible refine wpAny_execs_cons ?_); k_fold)) | ((first | ((with_reducible show wpAny _ _ (storeName _ _ _) _ _ _); k_dflt (refine' storeX_M ?Fz ?Nz ?_ ?az ?bz; (case Fz => k_asm); (case Nz => k_asm); (case az => rfl); (case bz => rfl); k_whole; intro _ _ _ _; (try k_sweep))) | ((with_reducible show wpAny _ _ (eval (PySem.Expr.Name _ _) (compEnvC _ _ _ _)) _ _ _); first | (refine ldVarK (by assumption) (by assumption) ?_) | (refine ldCellK rfl (by assumption) ?_)) | (first | (with_reducible refine wpAny_is_ref_self ?_) | ((with_reducible show wpAny _ _ (compareOp CmpOp.Is (Value.str _ _) (Value.ref _)) _ _ _); refine wpAny_is_other rfl (by intro e; cases e) ?_)) | fail "none")) | walk1 | dsimp only)))
    rename_i h15 oP2 F11 N11 dP2 _ _
    refine' compL (n := name.length + 1) (P := fun i v => i < name.length + 1 ∧ ∃ t, v = .int (0 + (i : Nat) * 1) t) (fun v => match v with | .int z _ => pStar Es z | _ => false) (fun v y => v = y) F11 N11 ?cc ?ccell rfl ?cnames rfl ?csrc ?cq ?cdone
    case cc => rfl
    case ccell => decide +kernel
    case cnames => decide +kernel
    case csrc =>
      (repeat' ((fail_if_success (with_reducible show wpAny _ _ (pyIter _) _ _ _)); (first | (k_unfold; (try dsimp only)) | ((with_reducible show wpAny _ _ (execs (_ :: _) _) _ _ _); first | k_gentoks | ((with_reducible refine wpAny_execs_cons ?_); k_fold)) | ((first | ((with_reducible show wpAny _ _ (storeName _ _ _) _ _ _); k_dflt (refine' storeX_M ?Fz ?Nz ?_ ?az ?bz; (case Fz => k_asm); (case Nz => k_asm); (case az => rfl); (case bz => rfl); k_whole; intro _ _ _ _; (try k_sweep))) | ((with_reducible show wpAny _ _ (eval (PySem.Expr.Name _ _) (compEnvC _ _ _ _)) _ _ _); first | (refine ldVarK (by assumption) (by assumption) ?_) | (refine ldCellK rfl (by assumption) ?_)) | (first | (with_reducible refine wpAny_is_ref_self ?_) | ((with_reducible show wpAny _ _ (compareOp CmpOp.Is (Value.str _ _) (Value.ref _)) _ _ _); refine wpAny_is_other rfl (by intro e; cases e) ?_)) | fail "none")) | walk1 | dsimp only)))
      rename_i hr _ _ kp
      exact src_range rfl rfl kp (Nat.le_of_lt (Heap.lt_size hr)) hr (small_one (by omega) (by omega) (by omega) (by omega)) (by rw [rangeSize_nat]; omega) (by rw [sizeLine_eq]; omega)
    case cq =>
      refine ⟨fun C i v s₃ m₃ E' hP hn3 hm3 F12 N12 => ?_, fun C i v s₃ m₃ E' hP hp hn3 hm3 F12 N12 => ?_⟩
      · obtain ⟨hi, t, rfl⟩ := hP
        have hcE : s₃.heap.IsCell (L + 1 + 1) (some (.ref E2)) := ⟨_, (N12 (L + 1 + 1, oE2) (by k_mem)).1, dE2⟩
        have hlE : s₃.heap.IsList E2 ws.toArray := ⟨_, (N12 (E2, listOf ws.toArray nE2) (by k_mem)).1, rfl, _, rfl⟩
        refine wpAny_tests_one (isTrue_and (wpAny_isTrue_Compare1 (ldCellK (c := L + 1 + 1) rfl hcE (wpAny_List ?_))))
        first | ((first | ((with_reducible show wpAny _ _ (storeName _ _ _) _ _ _); k_dflt (refine' storeX_M ?Fz ?Nz ?_ ?az ?bz; (case Fz => k_asm); (case Nz => k_asm); (case az => rfl); (case bz => rfl); k_whole; intro _ _ _ _; (try k_sweep))) | ((with_reducible show wpAny _ _ (eval (PySem.Expr.Name _ _) (compEnvC _ _ _ _)) _ _ _); first | (refine ldVarK (by assumption) (by assumption) ?_) | (refine ldCellK rfl (by assumption) ?_)) | (first | (with_reducible refine wpAny_is_ref_self ?_) | ((with_reducible show wpAny _ _ (compareOp CmpOp.Is (Value.str _ _) (Value.ref _)) _ _ _); refine wpAny_is_other rfl (by intro e; cases e) ?_)) | fail "none")) | walk1
        refine ⟨Nat.zero_le _, ?_⟩
        refine ne_intsK (hlE.at fun o e => Heap.get?_push_of_some _ e) hws ⟨_, Heap.get?_push_size _ rfl, rfl, _, rfl⟩ .nil ?hu (wpAny_truthy_bool ?_)
        case hu => show un + 3 + 64 < cLine; simp only [cLine]; omega
        by_cases he : Es = []
        · subst he
          exact ⟨by simp [pStar], ⟨_, _, rfl, fun _ _ e => Heap.get?_push_of_some _ e⟩⟩
        · rw [if_pos (by simp [he])]
          refine isTrue_and (wpAny_isTrue_Compare1 (ldVarK (hn3.at' fun o e => Heap.get?_push_of_some _ e) hm3 ?_))
          refine Subscript_ (ldCellK (c := L + 1 + 1) rfl ?_ (wpAny_Constant_int (item_anyK (hlE.at fun o e => Heap.get?_push_of_some _ e) hws (by decide) ?_ (by decide) fun t' => ge_int (wpAny_truthy_bool ?_))))
          · obtain ⟨o, ho, hd⟩ := hcE
            exact ⟨o, Heap.get?_push_of_some _ ho, hd⟩
          · have := List.length_pos_iff.mpr he
            omega
          · have hz : pStar Es (0 + (i : Nat) * 1) = decide (Es.getD 0 0 ≤ 0 + (i : Nat) * 1) := by simp [pStar, he]
            by_cases hle : Es.getD 0 0 ≤ 0 + (i : Nat) * 1
            · rw [if_pos (by simpa using hle)]
              refine isTrue_and_nil ⟨?_, ⟨_, _, rfl, fun _ _ e => Heap.get?_push_of_some _ e⟩⟩
              show true = pStar Es _
              rw [hz, decide_eq_true hle]
            · rw [if_neg (by simpa using hle)]
              refine ⟨?_, ⟨_, _, rfl, fun _ _ e => Heap.get?_push_of_some _ e⟩⟩
              show false = pStar Es _
              rw [hz, decide_eq_false hle]
      · exact ldVarK hn3 hm3 ⟨rfl, ⟨_, _, rfl, fun _ _ e => e⟩⟩
    case cdone =>
      intro D h' tk' ys us kk F' N' l1 hlen2 hP hF
      have F13 : Fr g L h' _ := F'
      have N13 : News g L h' _ := N'
      have hD : (@Ne Nat (L + 1 + 1 + 1) D ∧ @Ne Nat (L + 1 + 1) D ∧ @Ne Nat I2 D ∧ @Ne Nat O D ∧ @Ne Nat (L + 1) D ∧ @Ne Nat P D ∧ @Ne Nat I D ∧ @Ne Nat 77 D ∧ @Ne Nat S D ∧ @Ne Nat I3 D) :=
        ⟨l1 (L + 1 + 1 + 1, _) (by k_mem), l1 (L + 1 + 1, _) (by k_mem), l1 (I2, _) (by k_mem), l1 (O, _) (by k_mem), l1 (L + 1, _) (by k_mem), l1 (P, _) (by k_mem), l1 (I, _) (by k_mem), l1 (77, _) (by k_mem), l1 (S, _) (by k_mem), l1 (I3, _) (by k_mem)⟩
      clear F11 N11 F' N' l1
      (repeat' (first | (k_unfold; (try dsimp only)) | (k_end; wrow_close) | ((with_reducible show wpAny _ _ (execs (_ :: _) _) _ _ _); first | k_gentoks | ((with_reducible refine wpAny_execs_cons ?_); k_fold)) | ((first | ((with_reducible show wpAny _ _ (storeName _ _ _) _ _ _); k_dflt (refine' storeX_M ?Fz ?Nz ?_ ?az ?bz; (case Fz => k_asm); (case Nz => k_asm); (case az => rfl); (case bz => rfl); k_whole; intro _ _ _ _; (try k_sweep))) | ((with_reducible show wpAny _ _ (eval (PySem.Expr.Name _ _) (compEnvC _ _ _ _)) _ _ _); first | (refine ldVarK (by assumption) (by assumption) ?_) | (refine ldCellK rfl (by assumption) ?_)) | (first | (with_reducible refine wpAny_is_ref_self ?_) | ((with_reducible show wpAny _ _ (compareOp CmpOp.Is (Value.str _ _) (Value.ref _)) _ _ _); refine wpAny_is_other rfl (by intro e; cases e) ?_)) | fail "none")) | walk1 | dsimp only | (leave1; walk_say "STEP leave1"; try dsimp only) | fail "no step"))
      rename_i h16 oE3 F14 N14 dE3
      refine ⟨_, _, _, [(D, listOf ys.toArray kk), (L + 1 + 1 + 1, oP2), (L + 1 + 1, oE3), (I2, oI2), (O, listOf vO.toArray nO), (L + 1, oN), (P, listOf vs2.toArray n2), (I, oI), (77, tabObj ps2), (S, listOf #[Value.str (Str.ofString "a star of the law's own") tk0] 0)], rfl, F14, news_sub N14 (by kd_inAll), ?_, rfl, D, ys, kk, oP2, oE3, rfl, ?_, ⟨_, dP2⟩, dE3, ?_⟩
      · intro p hp
        simp only [List.mem_cons, List.not_mem_nil, or_false] at hp
        rcases hp with rfl | rfl | rfl | rfl | rfl | rfl | rfl | rfl | rfl | rfl
        all_goals (refine neN ?_; dsimp only; omega)
      · obtain ⟨r1, r2, r3, r4, r5, r6, r7, r8, r9, r10⟩ := hD
        exact ⟨r1, r2, r3, r4, r5, r6, r7, r8, r9⟩
      · rw [hstep _ hp3]
        exact paired_eq hF ▸ ints_filter (fun _ _ => rfl) (ints_of_walk hlen2 hP)
  · dsimp only
    refine wpAny_assign_Name ?_
    k_unmd
    k_fold
    (repeat' ((fail_if_success (with_reducible show wpAny _ _ (eval (PySem.Expr.ListComp _ _ _ _) _) _ _ _)); (first | (k_unfold; (try dsimp only)) | ((with_reducible show wpAny _ _ (execs (_ :: _) _) _ _ _); first | k_gentoks | ((with_reducible refine wpAny_execs_cons ?_); k_fold)) | ((first | ((with_reducible show wpAny _ _ (storeName _ _ _) _ _ _); k_dflt (refine' storeX_M ?Fz ?Nz ?_ ?az ?bz; (case Fz => k_asm); (case Nz => k_asm); (case az => rfl); (case bz => rfl); k_whole; intro _ _ _ _; (try k_sweep))) | ((with_reducible show wpAny _ _ (eval (PySem.Expr.Name _ _) (compEnvC _ _ _ _)) _ _ _); first | (refine ldVarK (by assumption) (by assumption) ?_) | (refine ldCellK rfl (by assumption) ?_)) | (first | (with_reducible refine wpAny_is_ref_self ?_) | ((with_reducible show wpAny _ _ (compareOp CmpOp.Is (Value.str _ _) (Value.ref _)) _ _ _); refine wpAny_is_other rfl (by intro e; cases e) ?_)) | fail "none")) | walk1 | dsimp only)))
    rename_i h15 oP2 F11 N11 dP2 _ _
    refine' compL (n := ws.length) (P := fun i v => ws[i]? = some v) (fun v => match v with | .int z _ => pStr name x z | _ => false) (fun v y => ∃ e t t', v = Value.int e t ∧ y = Value.int (e + 1) t') F11 N11 ?cc ?ccell rfl ?cnames rfl ?csrc ?cq ?cdone
    case cc => rfl
    case ccell => decide +kernel
    case cnames => decide +kernel
    case csrc =>
      (repeat' ((fail_if_success (with_reducible show wpAny _ _ (pyIter _) _ _ _)); (first | (k_unfold; (try dsimp only)) | ((with_reducible show wpAny _ _ (execs (_ :: _) _) _ _ _); first | k_gentoks | ((with_reducible refine wpAny_execs_cons ?_); k_fold)) | ((first | ((with_reducible show wpAny _ _ (storeName _ _ _) _ _ _); k_dflt (refine' storeX_M ?Fz ?Nz ?_ ?az ?bz; (case Fz => k_asm); (case Nz => k_asm); (case az => rfl); (case bz => rfl); k_whole; intro _ _ _ _; (try k_sweep))) | ((with_reducible show wpAny _ _ (eval (PySem.Expr.Name _ _) (compEnvC _ _ _ _)) _ _ _); first | (refine ldVarK (by assumption) (by assumption) ?_) | (refine ldCellK rfl (by assumption) ?_)) | (first | (with_reducible refine wpAny_is_ref_self ?_) | ((with_reducible show wpAny _ _ (compareOp CmpOp.Is (Value.str _ _) (Value.ref _)) _ _ _); refine wpAny_is_other rfl (by intro e; cases e) ?_)) | fail "none")) | walk1 | dsimp only)))
      have hlE : h15.IsList E2 ws.toArray := ⟨_, (N11 (E2, listOf ws.toArray nE2) (by k_mem)).1, rfl, _, rfl⟩
      refine src_list rfl rfl (fun _ _ e => e) (Nat.le_refl _) hlE ?_
      rw [hws.length, sizeLine_eq]; omega
    case cq =>
      refine ⟨fun C i v s₃ m₃ E' hP hn3 hm3 F12 N12 => ?_, fun C i v s₃ m₃ E' hP hp hn3 hm3 F12 N12 => ?_⟩
      · obtain ⟨e, t, rfl, he⟩ := hws.at i v hP
        have hcE : s₃.heap.IsCell (L + 1 + 1) (some (.ref E2)) := ⟨_, (N12 (L + 1 + 1, oE2) (by k_mem)).1, dE2⟩
        have hcN : s₃.heap.IsCell (L + 1) (some (.str name tn)) := ⟨_, (N12 (L + 1, oN) (by k_mem)).1, dN⟩
        have hcP : s₃.heap.IsCell (L + 1 + 1 + 1) (some (.str x tx)) := ⟨_, (N12 (L + 1 + 1 + 1, oP2) (by k_mem)).1, dP2⟩
        refine wpAny_tests_one (isTrue_and (wpAny_isTrue_Compare1 (ldVarK hn3 hm3 ?_)))
        have hxl : x.length ≤ 10 := parts_small hgm x (List.mem_of_getElem? hp3)
        have he0 : 0 ≤ e := hends e (List.mem_of_getElem? he)
        (repeat' (first | (k_unfold; (try dsimp only)) | (k_end; wrow_close) | ((with_reducible show wpAny _ _ (execs (_ :: _) _) _ _ _); first | k_gentoks | ((with_reducible refine wpAny_execs_cons ?_); k_fold)) | (((with_reducible show wpAny _ _ (call (Value.ref 814) [Value.str _ _, Value.str _ _]) _ _ _); (with_reducible rename Fr _ _ _ _ => kF9); (with_reducible rename News _ _ _ _ => kN9); k_dflt (refine' takes_spec (CxN.cx (cxN_deeper (by assumption) kF9 (by assumption) (by assumption) (by rfl) (by omega) (by omega) kN9)) ?k1z ?k2z ?_; (case k1z => omega); (case k2z => (show 1 ≤ 10; decide)); k_whole); intro h' tk' kp)) | ((first | ((with_reducible show wpAny _ _ (storeName _ _ _) _ _ _); k_dflt (refine' storeX_M ?Fz ?Nz ?_ ?az ?bz; (case Fz => k_asm); (case Nz => k_asm); (case az => rfl); (case bz => rfl); k_whole; intro _ _ _ _; (try k_sweep))) | ((with_reducible show wpAny _ _ (eval (PySem.Expr.Name _ _) (compEnvC _ _ _ _)) _ _ _); first | (refine ldVarK (by assumption) (by assumption) ?_) | (refine ldCellK rfl (by assumption) ?_)) | (first | (with_reducible refine wpAny_is_ref_self ?_) | ((with_reducible show wpAny _ _ (compareOp CmpOp.Is (Value.str _ _) (Value.ref _)) _ _ _); refine wpAny_is_other rfl (by intro e; cases e) ?_)) | fail "none")) | walk1 | dsimp only | (leave1; walk_say "STEP leave1"; try dsimp only) | fail "no step"))
        all_goals first
          | exact ⟨_, _, rfl, fun _ _ e => e⟩
          | exact ⟨_, _, rfl, by assumption⟩
          | (show false = pStr name x e; unfold pStr; rw [decide_eq_false (by assumption)]; rfl)
          | (show true = pStr name x e; unfold pStr; rw [decide_eq_true (by assumption)]; symm; simp_all)
          | (show false = pStr name x e; unfold pStr; rw [decide_eq_true (by assumption)]; symm; simp_all)
          | (show _ = pStr name x e; unfold pStr; rw [decide_eq_true (by assumption)]; symm; simp_all)
      · obtain ⟨e, t, rfl, he⟩ := hws.at i v hP
        exact wpAny_BinOp (ldVarK hn3 hm3 (wpAny_Constant_int (add_int ⟨⟨_, _, _, rfl, rfl⟩, ⟨_, _, rfl, fun _ _ e => e⟩⟩)))
    case cdone =>
      intro D h' tk' ys us kk F' N' l1 hlen2 hP hF
      have F13 : Fr g L h' _ := F'
      have N13 : News g L h' _ := N'
      have hD : (@Ne Nat (L + 1 + 1 + 1) D ∧ @Ne Nat (L + 1 + 1) D ∧ @Ne Nat I2 D ∧ @Ne Nat O D ∧ @Ne Nat (L + 1) D ∧ @Ne Nat P D ∧ @Ne Nat I D ∧ @Ne Nat 77 D ∧ @Ne Nat S D ∧ @Ne Nat I3 D) :=
        ⟨l1 (L + 1 + 1 + 1, _) (by k_mem), l1 (L + 1 + 1, _) (by k_mem), l1 (I2, _) (by k_mem), l1 (O, _) (by k_mem), l1 (L + 1, _) (by k_mem), l1 (P, _) (by k_mem), l1 (I, _) (by k_mem), l1 (77, _) (by k_mem), l1 (S, _) (by k_mem), l1 (I3, _) (by k_mem)⟩
      clear F11 N11 F' N' l1
      (repeat' (first | (k_unfold; (try dsimp only)) | (k_end; wrow_close) | ((with_reducible show wpAny _ _ (execs (_ :: _) _) _ _ _); first | k_gentoks | ((with_reducible refine wpAny_execs_cons ?_); k_fold)) | ((first | ((with_reducible show wpAny _ _ (storeName _ _ _) _ _ _); k_dflt (refine' storeX_M ?Fz ?Nz ?_ ?az ?bz; (case Fz => k_asm); (case Nz => k_asm); (case az => rfl); (case bz => rfl); k_whole; intro _ _ _ _; (try k_sweep))) | ((with_reducible show wpAny _ _ (eval (PySem.Expr.Name _ _) (compEnvC _ _ _ _)) _ _ _); first | (refine ldVarK (by assumption) (by assumption) ?_) | (refine ldCellK rfl (by assumption) ?_)) | (first | (with_reducible refine wpAny_is_ref_self ?_) | ((with_reducible show wpAny _ _ (compareOp CmpOp.Is (Value.str _ _) (Value.ref _)) _ _ _); refine wpAny_is_other rfl (by intro e; cases e) ?_)) | fail "none")) | walk1 | dsimp only | (leave1; walk_say "STEP leave1"; try dsimp only) | fail "no step"))
      rename_i h16 oE3 F14 N14 dE3
      refine ⟨_, _, _, [(D, listOf ys.toArray kk), (L + 1 + 1 + 1, oP2), (L + 1 + 1, oE3), (I2, oI2), (O, listOf vO.toArray nO), (L + 1, oN), (P, listOf vs2.toArray n2), (I, oI), (77, tabObj ps2), (S, listOf #[Value.str (Str.ofString "a star of the law's own") tk0] 0)], rfl, F14, news_sub N14 (by kd_inAll), ?_, rfl, D, ys, kk, oP2, oE3, rfl, ?_, ⟨_, dP2⟩, dE3, ?_⟩
      · intro p hp
        simp only [List.mem_cons, List.not_mem_nil, or_false] at hp
        rcases hp with rfl | rfl | rfl | rfl | rfl | rfl | rfl | rfl | rfl | rfl
        all_goals (refine neN ?_; dsimp only; omega)
      · obtain ⟨r1, r2, r3, r4, r5, r6, r7, r8, r9, r10⟩ := hD
        exact ⟨r1, r2, r3, r4, r5, r6, r7, r8, r9⟩
      · rw [hstep _ hp3]
        have e : us = ws := List.ext_getElem? fun j => by
          cases q : us[j]? with
          | none => exact (List.getElem?_eq_none (by rw [← hlen2]; exact List.getElem?_eq_none_iff.mp q)).symm
          | some v => exact (hP j v q).symm
        subst e
        exact paired_map hF (ints_filter (fun _ _ => rfl) hws)
end
section
theorem opened_K {w : World} {s : Shared} {Q : Flow → Shared → Prop} {E : Value → Shared → Prop} {dp un : Nat} {gd : Option (List Code)} {cn : Str} {cs : Scope} {L a : Addr} {ccd : Value} {cl cl1 : List (Str × Addr)} {A₀ : Around} {base h₀ : Heap} {m : Str → Option Value} {mean : ExcName → Option Value} {mg mb : Str → Option Value}
    {W cN NN : Addr} {vs vn : List Value} {names : List Str} {src0 tgt : List (List Str)} {nW nN : Nat} {oN : Obj} {ps : Array Value} {iter : PySem.Expr} {p1 p3 p4 p5 px py pos spos : Pos} {scope : Scope}
    (B : Below A₀ base [] h₀) (F : Fr h₀ L s.heap m) (X : (tKf w.params).In h₀) (T : Top topProg loose mean mg mb h₀) (hk : cs.kind = .function) (h1 : dp + 20 < 1000) (h2 : un + 400 + 1000 < 9900)
    (N : News h₀ L s.heap [(77, tabObj ps), (W, listOf vs.toArray nW), (NN, listOf vn.toArray nN), (cN, oN)]) (hW : @Ne Nat 77 W) (hNN : @Ne Nat 77 NN) (hcN7 : @Ne Nat 77 cN) (hcN : oN.data = .cell (some (.ref NN))) (hok : TabOk posL ps) (hvz : vs.length ≤ 100)
    (hvn : StrsAre vn names) (hnl : ∀ x ∈ names, x.length ≤ 10) (hnz : names.length ≤ 100)
    (src : ∀ (i : Nat) v, vs[i]? = some v → ∃ Wi vi ni nsi, v = .ref Wi ∧ s.heap.get? Wi = some (listOf (List.toArray vi) ni) ∧ @Ne Nat 77 Wi ∧ src0[i]? = some nsi ∧ tgt[i]? = some (openedF nsi names) ∧ StrsAre vi nsi ∧ (∀ x ∈ nsi, x ∈ menu) ∧ nsi.length ≤ 10)
    (hiter : wpAny (model prog w) (ktrTop dp un gd cn cs L a ccd cl []) (eval iter (envX cn cs L a ccd cl)) (fun xv s₁ => xv = .ref W ∧ s₁ = s) E s)
    (hclos : closureFor scope (envX cn cs L a ccd cl) = pure cl1) (hcell : ∀ z ∈ scope.names, z.2 ≠ .cell) (hkind : scope.kind = .function) (hnames : ∀ z ∈ scope.names, z.2 = .local → scope.names.lookup z.1 = some .local) (hx : scope.names.lookup (Str.ofString "line") = some .local)
    (k1 : (relabel scope (envX cn cs L a ccd cl)).names.lookup (Str.ofString "_law_opened") = some .globalImplicit) (k2 : (relabel scope (envX cn cs L a ccd cl)).names.lookup (Str.ofString "names") = some .cell) (k3 : (relabel scope (envX cn cs L a ccd cl)).names.lookup (Str.ofString "line") = some .local)
    (hcl : cl1.lookup (Str.ofString "names") = some cN)
    (hs : ∀ x, foldedSetIterable iter (envX cn cs L a ccd cl) x = pure x)
    (hy : (envX cn cs L a ccd cl).kindOf (Str.ofString "opened") = some .local) (hsw : swapsWith (PySem.Expr.ListComp (.Call (.Name (Str.ofString "_law_opened") p1) [.Name (Str.ofString "line") p3, .Name (Str.ofString "names") p4] [] p5) [⟨.Name (Str.ofString "line") px, iter, [], 0⟩] scope pos) (some (.Name (Str.ofString "opened") py)) spos.line (envX cn cs L a ccd cl) = pure true)
    (done : ∀ D ys bad ps' h' tk', Fr h₀ L h' (fun z => if z = Str.ofString "opened" then some (.ref D) else m z) → Kx [L, 77] s.heap h' → s.heap.get? D = none → D ∈ bad → h'.get? D = some { cls := .type "list", data := .seq (List.toArray ys) ys.length } → ys.length = vs.length → MadeL s.heap h' bad tgt ys → h'.get? 77 = some (tabObj ps') → TabOk posL ps' → Q .next { s with heap := h', toks := tk' }) :
    wpAny (model prog w) (ktrTop dp un gd cn cs L a ccd cl []) (exec (.Assign [.Name (Str.ofString "opened") py] (PySem.Expr.ListComp (.Call (.Name (Str.ofString "_law_opened") p1) [.Name (Str.ofString "line") p3, .Name (Str.ofString "names") p4] [] p5) [⟨.Name (Str.ofString "line") px, iter, [], 0⟩] scope pos) spos) (envX cn cs L a ccd cl)) Q E s := by
  have zT := N (77, tabObj ps) (by k_mem)
  have zW := N (W, listOf vs.toArray nW) (by k_mem)
  have zN := N (NN, listOf vn.toArray nN) (by k_mem)
  have zc := N (cN, oN) (by k_mem)
  obtain ⟨oL, _, _, hoL, _⟩ := id F.ns
  refine assignS (m := m) (l := W) (vs := vs) (fun bad i ys (s₁ : Shared) => ys.length = i ∧ (∀ b ∈ bad, s.heap.get? b = none) ∧ (∃ h' tk', s₁ = { s with heap := h', toks := tk' }) ∧ Fr h₀ L s₁.heap m ∧ Kx [77] s.heap s₁.heap ∧ MadeL s.heap s₁.heap bad tgt ys ∧ ∃ ps', s₁.heap.get? 77 = some (tabObj ps') ∧ TabOk posL ps')
    hsw hy (by show (cs.kind == .class || (cs.kind == .module && _)) = false; rw [hk]; rfl) ⟨oL, hoL⟩ ?hfr rfl hclos hcell hkind hnames hx hiter (by rw [sizeLine_eq]; omega) ?hl ?J0 ?stab ?elem ?done hs
  case hfr =>
    rintro bad i ys s₁ ⟨_, _, _, c5, _⟩ _
    exact c5.ns
  case hl =>
    rintro bad i ys s₁ ⟨_, _, _, _, kx, _⟩
    exact ⟨_, kx W _ (by simp only [List.mem_cons, List.not_mem_nil, or_false]; exact Ne.symm hW) zW.1, rfl, _, rfl⟩
  case J0 =>
    intro bad hbad
    exact ⟨rfl, hbad, ⟨_, _, rfl⟩, F, fun _ _ _ e => e, .nil, ps, zT.1, hok⟩
  case stab =>
    rintro bad i ys s₁ h' tk hY51z k
    refine and7 hY51z ?_
    intro c1 c2 hZ52z c5 c6 c7 hZ53z
    clear hY51z
    refine ex2 hZ52z ?_
    intro h3 tk3 hR55z
    clear hZ52z
    subst hR55z
    refine ex1 hZ53z ?_
    intro ps' hZ56z
    clear hZ53z
    refine and2 hZ56z ?_
    intro c8 c9
    clear hZ56z
    have up : ∀ b o, s.heap.get? b ≠ none → h3.get? b = some o → h'.get? b = some o := fun b o hn e => k b o (fun hb => hn (c2 b hb)) e
    have hL0 : s.heap.get? L ≠ none := by rw [hoL]; simp
    have h70 : s.heap.get? 77 ≠ none := by rw [zT.1]; simp
    refine ⟨c1, c2, ⟨_, _, rfl⟩, ⟨c5.ns.at' fun o e => up _ o hL0 e, fun b o e => up b o (by rw [F.keep b o e]; simp) (c5.keep b o e), c5.above⟩, fun b o hb e => up b o (by rw [e]; simp) (c6 b o hb e), c7.keep fun b o _ hb e => k b o hb e, ps', up _ _ h70 c8, c9⟩
  case done =>
    rintro bad D ys s₁ h' tk' hY57z hD hfr hlen hk9 hD2 hn9
    refine and7 hY57z ?_
    intro c1 c2 hZ58z c5 c6 c7 hZ59z
    clear hY57z
    refine ex2 hZ58z ?_
    intro h3 tk3 hR61z
    clear hZ58z
    subst hR61z
    refine ex1 hZ59z ?_
    intro ps' hZ62z
    clear hZ59z
    refine and2 hZ62z ?_
    intro c8 c9
    clear hZ62z
    dsimp only at hk9
    have up : ∀ b o, b ≠ L → s.heap.get? b ≠ none → h3.get? b = some o → h'.get? b = some o := fun b o hL hn e => hk9 b o hL (fun hb => hn (c2 b hb)) e
    have h70 : s.heap.get? 77 ≠ none := by rw [zT.1]; simp
    have gL : ∀ b o, h₀.get? b = some o → b ≠ L := fun b o e q => by
      have := Nat.lt_of_lt_of_le (Heap.lt_size e) F.above
      rw [q] at this; exact Nat.lt_irrefl _ this
    exact done D ys bad ps' h' tk' ⟨hn9, fun b o e => up b o (gL b o e) (by rw [F.keep b o e]; simp) (c5.keep b o e), c5.above⟩
      (fun b o hb e => up b o (fun q => hb (by rw [q]; exact .head _)) (by rw [e]; simp) (c6 b o (fun q => hb (.tail _ q)) e)) (c2 D hD) hD hD2 hlen
      (c7.keep fun b o hb1 hb e => hk9 b o (fun q => by rw [q, hoL] at hb1; cases hb1) hb e) (up _ _ zT.2.1 h70 c8) c9
  case elem =>
    rintro bad C i v ys s₁ m₁ E' hY63z hv hn hm hC hbad
    refine and7 hY63z ?_
    intro c1 c2 hZ64z c5 c6 c7 hZ65z
    clear hY63z
    refine ex2 hZ64z ?_
    intro h3 tk3 hR67z
    clear hZ64z
    subst hR67z
    refine ex1 hZ65z ?_
    intro ps' hZ68z
    clear hZ65z
    refine and2 hZ68z ?_
    intro c8 c9
    clear hZ68z
    dsimp only at c5 c6 c7 c8 hn hbad
    refine ex4 (src i v hv) ?_
    intro Wi vi ni nsi hZ69z
    refine and8 hZ69z ?_
    intro hR70z zi hWi hsi hti hSi hmi hzi
    clear hZ69z
    subst hR70z
    have F1 : Fr h₀ L h3 m := c5
    have T1 := topRead_of T
    have kk : ∀ b o, @Ne Nat 77 b → s.heap.get? b = some o → h3.get? b = some o := fun b o hb e => c6 b o (by simp only [List.mem_cons, List.not_mem_nil, or_false]; exact Ne.symm hb) e
    have kWi := kk _ _ hWi zi
    have kNN := kk _ _ hNN zN.1
    have kcN := kk _ _ hcN7 zc.1
    have N1 : News h₀ L h3 [(77, tabObj ps')] := fun q hq => by rw [List.mem_singleton.mp hq]; exact ⟨c8, zT.2⟩
    refine Call_Name2 ?_ rfl
    k_dflt (refine nameG_K (v := .ref 819) F1 X T1 (by k_is) ?_ rfl hkind k1 (by decide))
    refine callWith_K (e := PySem.Expr.Name (Str.ofString "line") p3) (rest := [PySem.Expr.Name (Str.ofString "names") p4]) X (by k_is) ?_
    refine spliced_more ?_
    refine ldVarK hn hm ?_ hkind k3 (by decide)
    refine spliced_more ?_
    refine ldCellK hcl ⟨oN, kcN, hcN⟩ ?_ hkind k2 (by decide)
    refine spliced_none ?_
    refine ⟨X.keeps F1.keep, ?_⟩
    have hcx : CxN w (ktrTop dp un gd cn cs L a ccd cl []) h3 4 [(77, tabObj ps')] := ⟨dp, un, gd, cn, cs, L, a, ccd, cl, [], A₀, base, h₀, m, mean, mg, mb, rfl, B, F1, X, T, hk, by omega, by omega, N1⟩
    have hsz : nsi.length * names.length ≤ 1000 := Nat.le_trans (Nat.mul_le_mul hzi hnz) (by decide)
    refine opened_spec hcx c9 ⟨_, kWi, rfl, _, rfl⟩ hSi ⟨_, kNN, rfl, _, rfl⟩ hvn (Ne.symm hWi) (Ne.symm hNN) hmi hnl hsz fun P u n ps2 h' tk' kx2 fP hP hu t2 ok2 => ?_
    dsimp only at kx2 fP
    have F2 : Fr h₀ L h' m := fr_kxL F1 kx2 (by
      intro b hb; simp only [List.mem_cons, List.not_mem_nil, or_false] at hb
      subst hb; exact zT.2.2) (by
      simp only [List.mem_cons, List.not_mem_nil, or_false]
      exact Ne.symm zT.2.1)
    have up7 : ∀ b o, s.heap.get? b = none → h3.get? b = some o → h'.get? b = some o := fun b o hb e => kx2 b o (by
      intro q; simp only [List.mem_cons, List.not_mem_nil, or_false] at q
      subst q; rw [zT.1] at hb; cases hb) e
    have fPs : s.heap.get? P = none := by
      cases e : s.heap.get? P with
      | none => rfl
      | some o =>
        exfalso
        by_cases hP7 : P = 77
        · rw [hP7, c8] at fP; cases fP
        · rw [c6 P o (by simpa using hP7) e] at fP; cases fP
    refine ⟨⟨by rw [List.length_append, List.length_singleton, c1], c2, ⟨_, _, rfl⟩, F2, fun b o hb e => kx2 b o hb (c6 b o hb e), c7.snoc (fun b o hb _ e => up7 b o hb e) (by rw [c1]; exact hti) fP fPs (fun q => ?_) hP hu, ps2, t2, ok2⟩, fun b hb' => ?_⟩
    · obtain ⟨o, ho⟩ := hbad P q
      rw [fP] at ho; cases ho
    · obtain ⟨o, ho⟩ := hbad b hb'
      exact (up7 b o (c2 b hb') ho).trans ho.symm
end
section
open PySem PyProof.Rows PySem.Spec
noncomputable def signOf (z : Int) (k : Nat) : Str := Str.mk #[[97, 98, 32, 39].getD (((z.fdiv 64).fdiv (4 ^ k)).fmod 4).toNat 0]
noncomputable def nameOf (z : Int) : Str := Str.mk #[[97, 98, 32, 39].getD (((z.fdiv 64).fdiv 1).fmod 4).toNat 0, [97, 98, 32, 39].getD (((z.fdiv 64).fdiv 4).fmod 4).toNat 0, [97, 98, 32, 39].getD (((z.fdiv 64).fdiv 16).fmod 4).toNat 0]
noncomputable def names0 : List Str := [Str.ofString "a", Str.ofString "ab", Str.ofString "a b", Str.ofString "'b"]
noncomputable def namesStep (l : List Str) (z : Int) : List Str := if nameOf z ∈ l then l else l ++ [nameOf z]
noncomputable def namesF (xs : List Int) : List Str := xs.foldl namesStep names0
noncomputable def words3 : List Str := [97, 98, 32, 39].flatMap fun a => [97, 98, 32, 39].flatMap fun b => [97, 98, 32, 39].map fun c => Str.mk #[a, b, c]
theorem sign_mem (r : Int) : [97, 98, 32, 39].getD (r.fmod 4).toNat 0 ∈ [97, 98, 32, 39] := by
  have h1 := Int.fmod_nonneg_of_pos r (show (0 : Int) < 4 by decide)
  have h2 := Int.fmod_lt_of_pos r (show (0 : Int) < 4 by decide)
  have h3 : (r.fmod 4).toNat < [97, 98, 32, 39].length := by show _ < 4; omega
  rw [List.getD_eq_getElem?_getD, List.getElem?_eq_getElem h3]
  exact List.getElem_mem h3
theorem nameOf_mem (z : Int) : nameOf z ∈ words3 := by
  unfold words3
  rw [List.mem_flatMap]
  refine ⟨_, sign_mem ((z.fdiv 64).fdiv 1), ?_⟩
  rw [List.mem_flatMap]
  refine ⟨_, sign_mem ((z.fdiv 64).fdiv 4), ?_⟩
  rw [List.mem_map]
  exact ⟨_, sign_mem ((z.fdiv 64).fdiv 16), rfl⟩
theorem namesF_snoc {xs : List Int} {i : Nat} {z : Int} (h : xs[i]? = some z) : namesF (xs.take (i + 1)) = namesStep (namesF (xs.take i)) z := by
  unfold namesF
  rw [List.take_add_one, h, List.foldl_append]
  rfl
theorem namesF_go : ∀ (xs : List Int) (l : List Str), (∀ x ∈ l, x ∈ names0 ++ words3) → l.Nodup → (∀ x ∈ xs.foldl namesStep l, x ∈ names0 ++ words3) ∧ (xs.foldl namesStep l).Nodup ∧ (xs.foldl namesStep l).length ≤ l.length + xs.length
  | [], l, h1, h2 => ⟨h1, h2, Nat.le_refl _⟩
  | z :: xs, l, h1, h2 => by
    rw [List.foldl_cons]
    by_cases hm : nameOf z ∈ l
    · have e : namesStep l z = l := by unfold namesStep; rw [if_pos hm]
      rw [e]
      have h := namesF_go xs l h1 h2
      exact ⟨h.1, h.2.1, by rw [List.length_cons]; omega⟩
    · have e : namesStep l z = l ++ [nameOf z] := by unfold namesStep; rw [if_neg hm]
      rw [e]
      have h := namesF_go xs (l ++ [nameOf z]) (fun x hx => by
        rcases List.mem_append.mp hx with hx | hx
        · exact h1 x hx
        · rw [List.mem_singleton.mp hx]; exact List.mem_append_right _ (nameOf_mem z)) (by
        rw [List.nodup_append]
        refine ⟨h2, by simp, fun a ha b hb => ?_⟩
        rw [List.mem_singleton.mp hb]
        rintro rfl
        exact hm ha)
      refine ⟨h.1, h.2.1, ?_⟩
      have h3 := h.2.2
      rw [List.length_append, List.length_singleton] at h3
      rw [List.length_cons]; omega
theorem names0_nodup : names0.Nodup := by decide +kernel
theorem namesF_ok (xs : List Int) : (∀ x ∈ namesF xs, x ∈ names0 ++ words3) ∧ (namesF xs).Nodup ∧ (namesF xs).length ≤ 4 + xs.length :=
  namesF_go xs names0 (fun x hx => List.mem_append_left _ hx) names0_nodup
theorem words_small : ∀ x ∈ names0 ++ words3, x.length ≤ 10 ∧ PyData.strOk x = true := by
  have h : ((names0 ++ words3).all fun x => decide (x.length ≤ 10) && PyData.strOk x) = true := by decide +kernel
  intro x hx
  have := List.all_eq_true.mp h x hx
  simpa using this
theorem rising_all : ∀ (l : List Str) (p : Str), risingS p l = true → ∀ x ∈ l, ¬ x.cps.toList < p.cps.toList
  | [], p, _, x, hx => nomatch hx
  | y :: r, p, h, x, hx => by
    have h' : (!ltCps y.cps.toList p.cps.toList && risingS y r) = true := h
    rw [Bool.and_eq_true, ltCps_eq] at h'
    have h1 : ¬ y.cps.toList < p.cps.toList := by simpa using h'.1
    rcases List.mem_cons.mp hx with rfl | hx
    · exact h1
    · have h2 := rising_all r y h'.2 x hx
      exact List.not_lt.mpr (List.le_trans (List.not_lt.mp h1) (List.not_lt.mp h2))
theorem str_lt_of {x y : Str} (h : ¬ y.cps.toList < x.cps.toList) (hne : x ≠ y) : x.cps.toList < y.cps.toList := by
  rcases Decidable.em (x.cps.toList < y.cps.toList) with h1 | h1
  · exact h1
  · refine absurd ?_ hne
    obtain ⟨a⟩ := x; obtain ⟨b⟩ := y
    exact congrArg Str.mk (Array.toList_inj.mp (List.le_antisymm (List.not_lt.mp h) (List.not_lt.mp h1)))
theorem sorted_strict : ∀ (l : List Str), sortedS l = true → l.Nodup → l.Pairwise (fun x y => x.cps.toList < y.cps.toList)
  | [], _, _ => .nil
  | x :: r, h, hn => by
    have h1 : risingS x r = true := h
    have h2 : sortedS r = true := by
      cases r with
      | nil => rfl
      | cons y r =>
        have h' : (!ltCps y.cps.toList x.cps.toList && risingS y r) = true := h1
        rw [Bool.and_eq_true] at h'
        exact h'.2
    have hn' := List.nodup_cons.mp hn
    refine .cons (fun y hy => str_lt_of (rising_all r x h1 y hy) ?_) (sorted_strict r h2 hn'.2)
    rintro rfl
    exact hn'.1 hy
end
section
noncomputable def SignF (z : Int) (v y : Value) : Prop := ∃ (k : Nat) (t1 t2 : Tok), k < 3 ∧ v = Value.int (k : Int) t1 ∧ y = Value.str (signOf z k) t2
theorem item_sign (r : Int) : Txt.item (Str.ofString "ab '") (r.fmod 4) = Str.mk #[[97, 98, 32, 39].getD (r.fmod 4).toNat 0] := by
  have h1 := Int.fmod_nonneg_of_pos r (show (0 : Int) < 4 by decide)
  have h2 := Int.fmod_lt_of_pos r (show (0 : Int) < 4 by decide)
  have h3 : r.fmod 4 = 0 ∨ r.fmod 4 = 1 ∨ r.fmod 4 = 2 ∨ r.fmod 4 = 3 := by omega
  rcases h3 with h | h | h | h <;> rw [h] <;> decide +kernel
theorem sign_list {z : Int} {us ys : List Value} (hl : us.length = 3) (hP : ∀ (j : Nat) v, us[j]? = some v → j < 3 ∧ ∃ t, v = Value.int (0 + (j : Nat) * 1) t) (hF : Paired (SignF z) us ys) : StrsAre ys [signOf z 0, signOf z 1, signOf z 2] := by
  obtain ⟨a, b, c, rfl⟩ : ∃ a b c, us = [a, b, c] := by
    match us, hl with
    | [a, b, c], _ => exact ⟨a, b, c, rfl⟩
  obtain ⟨-, ta, ha⟩ := hP 0 a rfl
  obtain ⟨-, tb, hb⟩ := hP 1 b rfl
  obtain ⟨-, tc, hc⟩ := hP 2 c rfl
  cases hF with
  | cons h1 r1 =>
  cases r1 with
  | cons h2 r2 =>
  cases r2 with
  | cons h3 r3 =>
  cases r3 with
  | nil =>
  obtain ⟨k1, s1, q1, _, e1, rfl⟩ := h1
  obtain ⟨k2, s2, q2, _, e2, rfl⟩ := h2
  obtain ⟨k3, s3, q3, _, e3, rfl⟩ := h3
  rw [ha] at e1; rw [hb] at e2; rw [hc] at e3
  injection e1 with e1 _; injection e2 with e2 _; injection e3 with e3 _
  obtain rfl : k1 = 0 := by omega
  obtain rfl : k2 = 1 := by omega
  obtain rfl : k3 = 2 := by omega
  exact .cons _ _ (.cons _ _ (.cons _ _ .nil))
theorem join_three (z : Int) : Txt.join (Str.ofString "") [signOf z 0, signOf z 1, signOf z 2] = nameOf z := by
  rw [show Txt.join (Str.ofString "") [signOf z 0, signOf z 1, signOf z 2] = Str.join (Str.ofString "") [signOf z 0, signOf z 1, signOf z 2] from StrLaws.glued_eq_join _ _]
  rfl
theorem names_spec {w : World} {A : Around} {s : Shared} {Q E : Value → Shared → Prop} {l : Addr} {vs : List Value} {xs : List Int} {n : Nat} (hc : CxN w A s.heap 2 [(l, listOf vs.toArray n)]) (hv : IntsAre vs xs) (hz : xs.length ≤ 10)
    (hQ : ∀ D ys k h' tk', Kx [l] s.heap h' → s.heap.get? D = none → h'.get? l = some (listOf vs.toArray n) → h'.get? D = some (listOf ys.toArray k) → StrsAre ys (namesF xs) → Q (.ref D) { s with heap := h', toks := tk' }) :
    wpAny (model prog w) A (call (.ref 802) [.ref l]) Q E s := by
  obtain ⟨dp, un, gd, cn, cs, L, a, ccd, cl, outer, A₀, base, h₀, m, mean, mg, mb, rfl, B, F, X, T, hk, h1, h2, N⟩ := hc
  refine wpAny_call ?_
  k_dflt (refine' code_defCG ?k1 ?k2 ?k3 ?k4 ?k5 ?kA ?kF ?kK ?k6 ?k7 ?k8 ?k9 ?kB ?kD ?_ ?c2 ?c3 ?c4; (case kA => exact rfl); (case kF => exact rfl); (case kK => assumption); (case k1 => k_asm); (case k2 => k_asm); (case k3 => k_asm); (case k4 => k_asm); (case k5 => k_asm); (case k6 => k_is); (case k7 => k_is); (case k8 => exact room (by assumption)); (case k9 => first | exact BindsTo.of_eq rfl | exact binds_K (by k_in) rfl (by k_is) rfl rfl rfl); (case kB => exact rfl); (case kD => decide +kernel); (case c2 => exact rfl); (case c3 => exact rfl); (case c4 => exact rfl); k_whole; intro _ _ _ _ _ _ _ N' Y' _ _ _ lL _; (try k_lt lL); k_cells Y'; (try simp only [List.cons_append, List.nil_append] at N'); (try dsimp only))
  (try k_fold)
  (repeat' ((fail_if_success (with_reducible show wpAny _ _ (exec (PySem.Stmt.For _ _ _ _ _) _) _ _ _)); (first | (k_unfold; (try dsimp only)) | ((with_reducible show wpAny _ _ (execs (_ :: _) _) _ _ _); first | k_gentoks | ((with_reducible refine wpAny_execs_cons ?_); k_fold)) | ((first | ((with_reducible show wpAny _ _ (storeName _ _ _) _ _ _); k_dflt (refine' storeX_M ?Fz ?Nz ?_ ?az ?bz; (case Fz => k_asm); (case Nz => k_asm); (case az => rfl); (case bz => rfl); k_whole; intro _ _ _ _; (try k_sweep))) | ((with_reducible show wpAny _ _ (eval (PySem.Expr.Name _ _) (compEnvC _ _ _ _)) _ _ _); first | (refine ldVarK (by assumption) (by assumption) ?_) | (refine ldCellK rfl (by assumption) ?_)) | fail "none")) | walk1 | dsimp only)))
  refine wpAny_For ?_
  (repeat' ((fail_if_success (with_reducible show wpAny _ _ (pyIter _) _ _ _)); (first | (k_unfold; (try dsimp only)) | ((with_reducible show wpAny _ _ (execs (_ :: _) _) _ _ _); first | k_gentoks | ((with_reducible refine wpAny_execs_cons ?_); k_fold)) | ((first | ((with_reducible show wpAny _ _ (storeName _ _ _) _ _ _); k_dflt (refine' storeX_M ?Fz ?Nz ?_ ?az ?bz; (case Fz => k_asm); (case Nz => k_asm); (case az => rfl); (case bz => rfl); k_whole; intro _ _ _ _; (try k_sweep))) | ((with_reducible show wpAny _ _ (eval (PySem.Expr.Name _ _) (compEnvC _ _ _ _)) _ _ _); first | (refine ldVarK (by assumption) (by assumption) ?_) | (refine ldCellK rfl (by assumption) ?_)) | fail "none")) | walk1 | dsimp only)))
  rename_i g L' h1 tk1 FG BB XX TT GS o1 d1 _ _ N h2 lN h3 _ F1 N1
  obtain ⟨lN1, lN2⟩ := lN
  obtain ⟨vN, N1b, hvN⟩ : ∃ vN : List Value, News g L' h3 ([(N, listOf vN.toArray 0), (L' + 1, o1)] ++ [(l, listOf vs.toArray n)]) ∧ StrsAre vN names0 := ⟨_, N1, .cons _ _ (.cons _ _ (.cons _ _ (.cons _ _ .nil)))⟩
  have F1a : Fr g L' h3 _ := F1
  clear F1 N1
  refine loopS (σ := List Value × Nat × Obj) (fun c => [(N, listOf c.1.toArray c.2.1), (L' + 1, c.2.2)]) [(l, listOf vs.toArray n)] [Str.ofString "name"] [N, L' + 1]
    (fun i c => StrsAre c.1 (namesF (xs.take i)) ∧ c.1.length ≤ 4 + i ∧ ∃ v, c.2.2.data = .cell v) (vN, 0, o1) rfl (.inr ⟨n, .head _⟩) F1a N1b (fun _ => rfl) ⟨hvN, by rw [hvN.length]; decide, _, d1⟩ ?turn ?done
  case turn =>
    rintro i v ⟨vn, nn, oc⟩ u h5 tk5 I oI hvi hY515z hI1 hI2 F2 N2
    refine and3 hY515z ?_
    intro hJ hJl hZ516z
    clear hY515z
    refine ex1 hZ516z ?_
    intro cv hcv
    clear hZ516z
    dsimp only at hJ hJl hcv
    refine ex2 (hv.at i v hvi) ?_
    intro z t hZ89z
    refine and2 hZ89z ?_
    intro hR90z hzi
    clear hZ89z
    subst hR90z
    have hil : i < xs.length := (List.getElem?_eq_some_iff.mp hzi).1
    have F3 : Fr g L' h5 _ := F2
    have N3 : News g L' h5 [(I, oI), (N, listOf vn.toArray nn), (L' + 1, oc), (l, listOf vs.toArray n)] := N2
    have hIN : @LT.lt Nat _ N I := hI1 _ (.head _)
    have hIC : @LT.lt Nat _ (L' + 1) I := hI1 _ (.tail _ (.head _))
    have hIl : @LT.lt Nat _ l I := hI2 _ (.head _)
    clear F2 N2 hI1 hI2 F1a N1b
    refine wpAny_assign_Name ?_
    k_unmd
    (try k_fold)
    (repeat' ((fail_if_success (with_reducible show wpAny _ _ (eval (PySem.Expr.ListComp _ _ _ _) _) _ _ _)); (first | (k_unfold; (try dsimp only)) | ((with_reducible show wpAny _ _ (execs (_ :: _) _) _ _ _); first | k_gentoks | ((with_reducible refine wpAny_execs_cons ?_); k_fold)) | ((first | ((with_reducible show wpAny _ _ (storeName _ _ _) _ _ _); k_dflt (refine' storeX_M ?Fz ?Nz ?_ ?az ?bz; (case Fz => k_asm); (case Nz => k_asm); (case az => rfl); (case bz => rfl); k_whole; intro _ _ _ _; (try k_sweep))) | ((with_reducible show wpAny _ _ (eval (PySem.Expr.Name _ _) (compEnvC _ _ _ _)) _ _ _); first | (refine ldVarK (by assumption) (by assumption) ?_) | (refine ldCellK rfl (by assumption) ?_)) | fail "none")) | walk1 | dsimp only)))
    rename_i h6 oX F4 N4 dX
    refine' compL (n := 3) (P := fun i v => i < 3 ∧ ∃ t, v = .int (0 + (i : Nat) * 1) t) (fun _ => true) (SignF z) F4 N4 ?cc ?ccell rfl ?cnames rfl ?csrc ?cq ?cdone
    case cc => rfl
    case ccell => decide +kernel
    case cnames => decide +kernel
    case csrc =>
      (repeat' ((fail_if_success (with_reducible show wpAny _ _ (pyIter _) _ _ _)); (first | (k_unfold; (try dsimp only)) | ((with_reducible show wpAny _ _ (execs (_ :: _) _) _ _ _); first | k_gentoks | ((with_reducible refine wpAny_execs_cons ?_); k_fold)) | ((first | ((with_reducible show wpAny _ _ (storeName _ _ _) _ _ _); k_dflt (refine' storeX_M ?Fz ?Nz ?_ ?az ?bz; (case Fz => k_asm); (case Nz => k_asm); (case az => rfl); (case bz => rfl); k_whole; intro _ _ _ _; (try k_sweep))) | ((with_reducible show wpAny _ _ (eval (PySem.Expr.Name _ _) (compEnvC _ _ _ _)) _ _ _); first | (refine ldVarK (by assumption) (by assumption) ?_) | (refine ldCellK rfl (by assumption) ?_)) | fail "none")) | walk1 | dsimp only)))
      rename_i hr _ _ kp
      exact src_range rfl rfl kp (Nat.le_of_lt (Heap.lt_size hr)) hr (small_one (by omega) (by omega) (by omega) (by omega)) (by decide) (by rw [sizeLine_eq]; omega)
    case cq =>
      refine ⟨fun C i v s₃ m₃ E' hP hn3 hm3 F12 N12 => ?_, fun C i v s₃ m₃ E' hP hp hn3 hm3 F12 N12 => ?_⟩
      · exact wpAny_pure ⟨rfl, _, _, rfl, fun _ _ e => e⟩
      · obtain ⟨hi3, tk3, rfl⟩ := hP
        have hcX : s₃.heap.IsCell (L' + 1) (some (.int z t)) := ⟨_, (N12 (L' + 1, oX) (by k_mem)).1, dX⟩
        have hi0 : i = 0 ∨ i = 1 ∨ i = 2 := by omega
        rcases hi0 with rfl | rfl | rfl
        all_goals (first | (rw [show (0 : Int) + ((0 : Nat) : Int) * 1 = 0 from rfl] at hm3) | (rw [show (0 : Int) + ((1 : Nat) : Int) * 1 = 1 from rfl] at hm3) | (rw [show (0 : Int) + ((2 : Nat) : Int) * 1 = 2 from rfl] at hm3))
        all_goals (repeat' (first | (k_unfold; (try dsimp only)) | (k_end; wrow_close) | ((with_reducible show wpAny _ _ (execs (_ :: _) _) _ _ _); first | k_gentoks | ((with_reducible refine wpAny_execs_cons ?_); k_fold)) | ((first | ((with_reducible show wpAny _ _ (storeName _ _ _) _ _ _); k_dflt (refine' storeX_M ?Fz ?Nz ?_ ?az ?bz; (case Fz => k_asm); (case Nz => k_asm); (case az => rfl); (case bz => rfl); k_whole; intro _ _ _ _; (try k_sweep))) | ((with_reducible show wpAny _ _ (eval (PySem.Expr.Name _ _) (compEnvC _ _ _ _)) _ _ _); first | (refine ldVarK (by assumption) (by assumption) ?_) | (refine ldCellK rfl (by assumption) ?_)) | fail "none")) | walk1 | dsimp only | (leave1; walk_say "STEP leave1"; try dsimp only) | fail "no step"))
        all_goals first
          | exact ⟨_, _, rfl, fun _ _ e => e⟩
          | exact ⟨0, _, _, by decide, rfl, by rw [item_sign]; rfl⟩
          | exact ⟨1, _, _, by decide, rfl, by rw [item_sign]; rfl⟩
          | exact ⟨2, _, _, by decide, rfl, by rw [item_sign]; rfl⟩
    case cdone =>
      intro D h' tk' ys us kk F' N' l1' hlen2 hP hF
      have q1 : @Ne Nat N D := l1' (N, listOf vn.toArray nn) (by k_mem)
      have q2 : @Ne Nat I D := l1' (I, oI) (by k_mem)
      have q3 : @Ne Nat (L' + 1) D := l1' (L' + 1, oX) (by k_mem)
      have q4 : @Ne Nat l D := l1' (l, listOf vs.toArray n) (by k_mem)
      have q5 : @LT.lt Nat _ (L' + 1) N := by first | exact lN1 | exact lN2
      have q6 : @LT.lt Nat _ l N := by first | exact lN2 | exact lN1
      have F13 : Fr g L' h' _ := F'
      have N13 : News g L' h' _ := N'
      clear F' N' F4 N4
      rw [List.filter_eq_self.mpr (fun _ _ => rfl)] at hF
      have hS := sign_list hlen2 hP hF
      repeat' ((fail_if_success (with_reducible show wpAny _ _ (call (Value.builtin "str.join") _) _ _ _)); (first | (k_unfold; (try dsimp only)) | ((with_reducible show wpAny _ _ (execs (_ :: _) _) _ _ _); first | k_gentoks | ((with_reducible refine wpAny_execs_cons ?_); k_fold)) | ((first | ((with_reducible show wpAny _ _ (storeName _ _ _) _ _ _); k_dflt (refine' storeX_M ?Fz ?Nz ?_ ?az ?bz; (case Fz => k_asm); (case Nz => k_asm); (case az => rfl); (case bz => rfl); k_whole; intro _ _ _ _; (try k_sweep))) | ((with_reducible show wpAny _ _ (eval (PySem.Expr.Name _ _) (compEnvC _ _ _ _)) _ _ _); first | (refine ldVarK (by assumption) (by assumption) ?_) | (refine ldCellK rfl (by assumption) ?_)) | fail "none")) | walk1 | dsimp only))
      have hD1 : h'.IsList D ys.toArray := ⟨_, (N13 (D, listOf ys.toArray kk) (by k_mem)).1, rfl, _, rfl⟩
      refine join_list hD1 hS ?hw fun tj kj => ?_
      case hw =>
        show 3 ≤ 16777216
        decide
      rw [join_three]
      (repeat' ((fail_if_success (with_reducible show wpAny _ _ (compareOp _ _ _) _ _ _)); (first | (k_unfold; (try dsimp only)) | ((with_reducible show wpAny _ _ (execs (_ :: _) _) _ _ _); first | k_gentoks | ((with_reducible refine wpAny_execs_cons ?_); k_fold)) | ((first | ((with_reducible show wpAny _ _ (storeName _ _ _) _ _ _); k_dflt (refine' storeX_M ?Fz ?Nz ?_ ?az ?bz; (case Fz => k_asm); (case Nz => k_asm); (case az => rfl); (case bz => rfl); k_whole; intro _ _ _ _; (try k_sweep))) | ((with_reducible show wpAny _ _ (eval (PySem.Expr.Name _ _) (compEnvC _ _ _ _)) _ _ _); first | (refine ldVarK (by assumption) (by assumption) ?_) | (refine ldCellK rfl (by assumption) ?_)) | fail "none")) | walk1 | dsimp only)))
      (with_reducible rename News _ _ _ _ => N14)
      refine notin_strs (vs := vn) (ns := namesF (xs.take i)) ⟨_, (N14 (N, listOf vn.toArray nn) (by k_mem)).1, rfl, _, rfl⟩ (by assumption) (wpAny_truthy_bool ?_)
      have hsn := namesF_snoc hzi
      by_cases hm : nameOf z ∈ namesF (xs.take i)
      · rw [show (!decide (nameOf z ∈ namesF (xs.take i))) = false by simp [hm], if_neg (by simp)]
        (repeat' (first | (k_unfold; (try dsimp only)) | (k_end; wrow_close) | ((with_reducible show wpAny _ _ (execs (_ :: _) _) _ _ _); first | k_gentoks | ((with_reducible refine wpAny_execs_cons ?_); k_fold)) | ((first | ((with_reducible show wpAny _ _ (storeName _ _ _) _ _ _); k_dflt (refine' storeX_M ?Fz ?Nz ?_ ?az ?bz; (case Fz => k_asm); (case Nz => k_asm); (case az => rfl); (case bz => rfl); k_whole; intro _ _ _ _; (try k_sweep))) | ((with_reducible show wpAny _ _ (eval (PySem.Expr.Name _ _) (compEnvC _ _ _ _)) _ _ _); first | (refine ldVarK (by assumption) (by assumption) ?_) | (refine ldCellK rfl (by assumption) ?_)) | fail "none")) | walk1 | dsimp only | (leave1; walk_say "STEP leave1"; try dsimp only) | fail "no step"))
        refine ⟨(vn, nn, oX), _, _, _, rfl, ?_, (by assumption), news_sub N14 (by kd_inAll), ?_⟩
        · intro q hq
          have : q ≠ Str.ofString "name" := by rintro rfl; revert hq; decide +kernel
          simp +zetaDelta only [if_neg this, hq, Bool.false_eq_true, if_false]
        · refine ⟨?_, by dsimp only; omega, _, dX⟩
          dsimp only
          rw [hsn]
          unfold namesStep
          rw [if_pos hm]
          assumption
      · rw [show (!decide (nameOf z ∈ namesF (xs.take i))) = true by simp [hm], if_pos rfl]
        (repeat' ((fail_if_success (with_reducible show wpAny _ _ (call (Value.builtin "list.append") _) _ _ _)); (first | (k_unfold; (try dsimp only)) | ((with_reducible show wpAny _ _ (execs (_ :: _) _) _ _ _); first | k_gentoks | ((with_reducible refine wpAny_execs_cons ?_); k_fold)) | ((first | ((with_reducible show wpAny _ _ (storeName _ _ _) _ _ _); k_dflt (refine' storeX_M ?Fz ?Nz ?_ ?az ?bz; (case Fz => k_asm); (case Nz => k_asm); (case az => rfl); (case bz => rfl); k_whole; intro _ _ _ _; (try k_sweep))) | ((with_reducible show wpAny _ _ (eval (PySem.Expr.Name _ _) (compEnvC _ _ _ _)) _ _ _); first | (refine ldVarK (by assumption) (by assumption) ?_) | (refine ldCellK rfl (by assumption) ?_)) | fail "none")) | walk1 | dsimp only)))
        (with_reducible rename News _ _ _ _ => N15)
        refine' append_K ?k1 ?k2 ?ku (fun h20 F20 N20 => ?_) ?kz
        case k1 => assumption
        case k2 => assumption
        case ku => k_upd
        case kz => rw [sizeLine_eq]; simp; omega
        (repeat' (first | (k_unfold; (try dsimp only)) | (k_end; wrow_close) | ((with_reducible show wpAny _ _ (execs (_ :: _) _) _ _ _); first | k_gentoks | ((with_reducible refine wpAny_execs_cons ?_); k_fold)) | ((first | ((with_reducible show wpAny _ _ (storeName _ _ _) _ _ _); k_dflt (refine' storeX_M ?Fz ?Nz ?_ ?az ?bz; (case Fz => k_asm); (case Nz => k_asm); (case az => rfl); (case bz => rfl); k_whole; intro _ _ _ _; (try k_sweep))) | ((with_reducible show wpAny _ _ (eval (PySem.Expr.Name _ _) (compEnvC _ _ _ _)) _ _ _); first | (refine ldVarK (by assumption) (by assumption) ?_) | (refine ldCellK rfl (by assumption) ?_)) | fail "none")) | walk1 | dsimp only | (leave1; walk_say "STEP leave1"; try dsimp only) | fail "no step"))
        refine ⟨(vn ++ [.str (nameOf z) tj], nn + 1, oX), _, _, _, rfl, ?_, (by assumption), ?_, ?_⟩
        · intro q hq
          have : q ≠ Str.ofString "name" := by rintro rfl; revert hq; decide +kernel
          simp +zetaDelta only [if_neg this, hq, Bool.false_eq_true, if_false]
        · have e : (vn ++ [Value.str (nameOf z) tj]).toArray = vn.toArray.push (Value.str (nameOf z) tj) := by simp
          dsimp only
          rw [e]
          exact news_sub N20 (by kd_inAll)
        · refine ⟨?_, ?_, _, dX⟩
          · dsimp only
            rw [hsn]
            unfold namesStep
            rw [if_neg hm]
            exact StrsAre.append' (by assumption) (.cons _ _ .nil)
          · dsimp only
            rw [List.length_append, List.length_singleton]
            omega
  case done =>
    rintro ⟨vn, nn, oc⟩ u h5 tk5 hY518z F2 N2
    refine and3 hY518z ?_
    intro hJ hJl hZ519z
    clear hY518z
    refine ex1 hZ519z ?_
    intro cv hcv
    clear hZ519z
    dsimp only at hJ
    rw [hv.length, List.take_of_length_le (Nat.le_refl _)] at hJ
    have F13 : Fr g L' h5 _ := F2
    have N13 : News g L' h5 [(N, listOf vn.toArray nn), (L' + 1, oc), (l, listOf vs.toArray n)] := N2
    clear F2 N2 F1a N1b
    dsimp only
    (repeat' (first | (k_unfold; (try dsimp only)) | (k_end; wrow_close) | ((with_reducible show wpAny _ _ (execs (_ :: _) _) _ _ _); first | k_gentoks | ((with_reducible refine wpAny_execs_cons ?_); k_fold)) | ((first | ((with_reducible show wpAny _ _ (storeName _ _ _) _ _ _); k_dflt (refine' storeX_M ?Fz ?Nz ?_ ?az ?bz; (case Fz => k_asm); (case Nz => k_asm); (case az => rfl); (case bz => rfl); k_whole; intro _ _ _ _; (try k_sweep))) | ((with_reducible show wpAny _ _ (eval (PySem.Expr.Name _ _) (compEnvC _ _ _ _)) _ _ _); first | (refine ldVarK (by assumption) (by assumption) ?_) | (refine ldCellK rfl (by assumption) ?_)) | fail "none")) | walk1 | dsimp only | (leave1; walk_say "STEP leave1"; try dsimp only) | fail "no step"))
    have zD := N13 (N, listOf vn.toArray nn) (.head _)
    refine hQ N vn nn h5 _ (fun b o hb e => F13.keep b o (GS b o e (by simpa using hb))) (fresh_back GS N13 (.head _) ?_) (N13 (l, listOf vs.toArray n) (by k_mem)).1 zD.1 hJ
    intro hm9; simp only [List.mem_cons, List.map_cons, List.map_nil, List.not_mem_nil, or_false] at hm9
    have e8 : @Eq Nat _ _ := hm9
    omega
end
section
theorem unord_spec {w : World} {s : Shared} {Q E : Value → Shared → Prop} {dp un : Nat} {gd : Option (List Code)} {cn : Str} {cs : Scope} {L a : Addr} {ccd : Value} {cl : List (Str × Addr)} {h₀ : Heap} {m : Str → Option Value} {mean : ExcName → Option Value} {mg mb : Str → Option Value}
    {l1 l2 : Addr} {vs1 vs2 : List Value} {ns1 ns2 : List Str} {n1 n2 : Nat} (F : Fr h₀ L s.heap m) (X : (tKf w.params).In h₀) (T : Top topProg loose mean mg mb h₀) (hk : cs.kind = .function) (h1 : dp + 2 < 1000) (N : News h₀ L s.heap [(l1, listOf vs1.toArray n1), (l2, listOf vs2.toArray n2)]) (hne : @Ne Nat l1 l2)
    (hv1 : StrsAre vs1 ns1) (hv2 : StrsAre vs2 ns2) (hz1 : ns1.length ≤ 1000) (hz2 : ns2.length ≤ 1000)
    (h : ∀ T M vM nM v2 n2' h' tk', Fr h₀ L h' m → Kx [L, l1, l2] s.heap h' → s.heap.get? T = none → s.heap.get? M = none → @Ne Nat M T → h'.get? T = some { cls := .type "tuple", data := .seq #[.ref M, .ref l2] } →
      h'.get? M = some (listOf (List.toArray vM) nM) → StrsAre vM (leftF (fun y => ns2.count y) ns1.reverse) → h'.get? l2 = some (listOf (List.toArray v2) n2') → StrsAre v2 (leftF (fun y => ns1.count y) ns2) → Q (.ref T) { s with heap := h', toks := tk' }) :
    wpAny (model prog w) (ktrTop dp un gd cn cs L a ccd cl []) (call (.ref 58) [.ref l1, .ref l2]) Q E s := by
  have h1' : dp + (1 + 1) < 1000 := h1
  refine wpAny_call ?_
  k_dflt (refine' code_defT ?k1 ?k2 ?k3 ?k4 ?kA ?kF ?kK ?k6 ?k7 ?k8 ?k9 ?kB ?_ ?c2 ?c3 ?c4 ?c5; (case kA => exact rfl); (case kF => exact rfl); (case kK => assumption); (case k1 => k_asm); (case k2 => k_asm); (case k3 => k_asm); (case k4 => k_asm); (case k6 => k_is); (case k7 => k_is); (case k8 => exact room (by assumption)); (case k9 => first | exact BindsTo.of_eq rfl | exact binds_K (by k_in) rfl (by k_is) rfl rfl rfl); (case c5 => decide); (case kB => exact locs rfl); (case c2 => exact rfl); (case c3 => exact rfl); (case c4 => exact rfl); k_whole; intro _ _ _ _ _ _ _ _ _ _ _ _ _ _ _ N'; (try simp only [List.cons_append, List.nil_append] at N'); (try dsimp only))
  k_fold
  (repeat' ((fail_if_success (with_reducible show wpAny _ _ (exec (PySem.Stmt.While _ _ _ _) _) _ _ _)); (first | (k_unfold; (try dsimp only)) | ((with_reducible show wpAny _ _ (execs (_ :: _) _) _ _ _); first | k_gentoks | ((with_reducible refine wpAny_execs_cons ?_); k_fold)) | ((first | ((with_reducible show wpAny _ _ (storeName _ _ _) _ _ _); k_dflt (refine' storeX_M ?Fz ?Nz ?_ ?az ?bz; (case Fz => k_asm); (case Nz => k_asm); (case az => rfl); (case bz => rfl); k_whole; intro _ _ _ _; (try k_sweep))) | fail "none")) | walk1 | dsimp only)))
  rename_i g L' oL h0 GS tiC tiF hoL lN lL nL kp XX TT _ _ tk0 _ _ M h3 lM h4 _ F1 N1
  obtain ⟨lM1, lM2, lM3⟩ := lM
  have n1L : @Ne Nat l1 L := nL (l1, _) (.head _)
  have n2L : @Ne Nat l2 L := nL (l2, _) (.tail _ (.head _))
  have q1L : @LT.lt Nat _ l1 L' := lN (l1, _) (.head _)
  have q2L : @LT.lt Nat _ l2 L' := lN (l2, _) (.tail _ (.head _))
  clear nL lN
  refine ksw_while (σ := (List Value × Nat × List Value × Nat × List Value × Nat) × Array (Option Value)) (fun c => [(M, listOf c.1.2.2.2.2.1.toArray c.1.2.2.2.2.2), (l1, listOf c.1.1.toArray c.1.2.1), (l2, listOf c.1.2.2.1.toArray c.1.2.2.2.1), (L, { oL with slots := c.2 })]) (fun _ => []) (fun _ => True) [Str.ofString "item"]
    (fun c => ∃ rest seen, ns1 = rest ++ seen.reverse ∧ StrsAre c.1.1 rest ∧ StrsAre c.1.2.2.1 (leftF (fun y => seen.count y) ns2) ∧ StrsAre c.1.2.2.2.2.1 (leftF (fun y => ns2.count y) seen)) (fun c => c.1.1.length) ((vs1, n1, vs2, n2, [], 0), oL.slots) F1 N1 trivial (by simp) ⟨ns1, [], by simp, hv1, by simpa [leftF_zero] using hv2, .nil⟩ ?turn
  rintro ⟨⟨va, na, vb, nb, vm, nm⟩, sl⟩ u h5 tk5 - hY91z F2 N2
  refine ex2 hY91z ?_
  intro rest seen hZ92z
  clear hY91z
  refine and4 hZ92z ?_
  intro hns ha hb hm
  clear hZ92z
  dsimp only at ha hb hm
  have F3 : Fr g L' h5 _ := F2
  have N3 : News g L' h5 [(M, listOf vm.toArray nm), (l1, listOf va.toArray na), (l2, listOf vb.toArray nb), (L, { oL with slots := sl })] := N2
  have tiF3 : TI.Frs [envX cn cs L a ccd cl] [(L, { oL with slots := sl })] := ⟨tiF.1, tiF.2.1, tiF.2.2.1, trivial⟩
  clear F2 N2 F1 N1 tiF
  (repeat' ((fail_if_success (with_reducible show wpAny _ _ (truthy _) _ _ _)); (first | (k_unfold; (try dsimp only)) | ((with_reducible show wpAny _ _ (execs (_ :: _) _) _ _ _); first | k_gentoks | ((with_reducible refine wpAny_execs_cons ?_); k_fold)) | ((first | ((with_reducible show wpAny _ _ (storeName _ _ _) _ _ _); k_dflt (refine' storeX_M ?Fz ?Nz ?_ ?az ?bz; (case Fz => k_asm); (case Nz => k_asm); (case az => rfl); (case bz => rfl); k_whole; intro _ _ _ _; (try k_sweep))) | fail "none")) | walk1 | dsimp only)))
  have hla : h5.IsList l1 va.toArray := ⟨_, (N3 (l1, listOf va.toArray na) (by k_mem)).1, rfl, _, rfl⟩
  have hal : va.length ≤ 1000 := by have h9 := ha.length; have h8 := congrArg List.length hns; rw [List.length_append] at h8; omega
  have hsl : seen.length ≤ 1000 := by have h8 := congrArg List.length hns; rw [List.length_append, List.length_reverse] at h8; omega
  have hml : vm.length ≤ 1000 := by rw [hm.length]; exact Nat.le_trans (leftF_length _ _) hsl
  refine wpAny_truthy_list hla (by simp; omega) ?_
  by_cases hr : rest = []
  · subst hr
    cases ha
    dsimp only
    rw [if_neg (by simp)]
    (repeat' (first | (k_unfold; (try dsimp only)) | (k_end; wrow_close) | ((with_reducible show wpAny _ _ (execs (_ :: _) _) _ _ _); first | k_gentoks | ((with_reducible refine wpAny_execs_cons ?_); k_fold)) | ((first | ((with_reducible show wpAny _ _ (storeName _ _ _) _ _ _); k_dflt (refine' storeX_M ?Fz ?Nz ?_ ?az ?bz; (case Fz => k_asm); (case Nz => k_asm); (case az => rfl); (case bz => rfl); k_whole; intro _ _ _ _; (try k_sweep))) | fail "none")) | walk1 | dsimp only | (leave1; walk_say "STEP leave1"; try dsimp only) | fail "no step"))
    rename_i T' h6 F4 N4 l4
    obtain ⟨l4a, l4b, l4c, l4d⟩ := l4
    have e1 : ns1.reverse = seen := by rw [hns]; simp
    have e2 : (fun y => seen.count y) = fun y => ns1.count y := by funext y; rw [← e1, List.count_reverse]
    refine h T' M vm nm vb nb h6 tk (fr_back tiC kp F4 N4 (by k_mem)) (kx_back GS F4) (fresh_back GS N4 (.head _) ?_) (fresh_back GS N4 (.tail _ (.head _)) ?_) (Nat.ne_of_lt l4a) (N4 _ (.head _)).1 (N4 _ (.tail _ (.head _))).1 (by rw [e1]; exact hm) (N4 (l2, _) (by k_mem)).1 (by rw [← e2]; exact hb)
    · intro hm; simp only [List.mem_cons, List.map_cons, List.map_nil, List.not_mem_nil, or_false] at hm; rcases hm with e | e | e <;> (have e' : @Eq Nat _ _ := e; omega)
    · intro hm; simp only [List.mem_cons, List.map_cons, List.map_nil, List.not_mem_nil, or_false] at hm; rcases hm with e | e | e <;> (have e' : @Eq Nat _ _ := e; omega)
  · rw [if_pos (show (!va.toArray.isEmpty) = true from by cases ha with | nil => exact absurd rfl hr | cons _ _ _ => rfl)]
    (repeat' ((fail_if_success (with_reducible show wpAny _ _ (call (Value.builtin "list.pop") _) _ _ _)); (first | (k_unfold; (try dsimp only)) | ((with_reducible show wpAny _ _ (execs (_ :: _) _) _ _ _); first | k_gentoks | ((with_reducible refine wpAny_execs_cons ?_); k_fold)) | ((first | ((with_reducible show wpAny _ _ (storeName _ _ _) _ _ _); k_dflt (refine' storeX_M ?Fz ?Nz ?_ ?az ?bz; (case Fz => k_asm); (case Nz => k_asm); (case az => rfl); (case bz => rfl); k_whole; intro _ _ _ _; (try k_sweep))) | fail "none")) | walk1 | dsimp only)))
    refine' pop_strs (vs := va) (ns := rest) F3 N3 ha hr ?pu ?pz ?_
    case pu => k_upd
    case pz => rw [sizeLine_eq]; omega
    intro h6 y ty F4 N4 hy ha'
    have F5 := F4
    have N5 : News g L' h6 [(M, listOf vm.toArray nm), (l1, listOf va.dropLast.toArray (na + 1)), (l2, listOf vb.toArray nb), (L, { oL with slots := sl })] := N4
    clear F4 N4 F3 N3
    (repeat' ((fail_if_success (with_reducible show wpAny _ _ (call (Value.builtin "list.remove") _) _ _ _)); (first | (k_unfold; (try dsimp only)) | ((with_reducible show wpAny _ _ (execs (_ :: _) _) _ _ _); first | k_gentoks | ((with_reducible refine wpAny_execs_cons ?_); k_fold)) | ((first | ((with_reducible show wpAny _ _ (storeName _ _ _) _ _ _); k_dflt (refine' storeX_M ?Fz ?Nz ?_ ?az ?bz; (case Fz => k_asm); (case Nz => k_asm); (case az => rfl); (case bz => rfl); k_whole; intro _ _ _ _; (try k_sweep))) | fail "none")) | walk1 | dsimp only)))
    have hns' : ns1 = rest.dropLast ++ (seen ++ [y]).reverse := by
      have e : rest ++ seen.reverse = (rest.dropLast ++ [y]) ++ seen.reverse := congrArg (· ++ seen.reverse) hy
      rw [hns, e]; simp
    have hbl : vb.length ≤ 1000 := by rw [hb.length]; exact Nat.le_trans (leftF_length _ _) hz2
    have hlt : va.dropLast.length < va.length := by have h9 := ha.length; have := List.length_pos_iff.mpr hr; rw [List.length_dropLast]; omega
    by_cases hy2 : y ∈ leftF (fun y => List.count y seen) ns2
    · refine' remove_strs (vs := vb) (ns := leftF (fun y => List.count y seen) ns2) (by assumption) (by assumption) hb hy2 ?ru ?rz ?_
      case ru => k_upd
      case rz => rw [sizeLine_eq]; omega
      intro h7 F6 N6
      have F7 := F6
      have N7 : News g L' h7 [(M, listOf vm.toArray nm), (l1, listOf va.dropLast.toArray (na + 1)), (l2, listOf (vb.eraseIdx ((leftF (fun y => List.count y seen) ns2).idxOf y)).toArray (nb + 1)), (L, { oL with slots := sl })] := N6
      clear F6 N6
      (repeat' (first | (k_unfold; (try dsimp only)) | (k_end; wrow_close) | ((with_reducible show wpAny _ _ (execs (_ :: _) _) _ _ _); first | k_gentoks | ((with_reducible refine wpAny_execs_cons ?_); k_fold)) | ((first | ((with_reducible show wpAny _ _ (storeName _ _ _) _ _ _); k_dflt (refine' storeX_M ?Fz ?Nz ?_ ?az ?bz; (case Fz => k_asm); (case Nz => k_asm); (case az => rfl); (case bz => rfl); k_whole; intro _ _ _ _; (try k_sweep))) | fail "none")) | walk1 | dsimp only | (leave1; walk_say "STEP leave1"; try dsimp only) | fail "no step"))
      refine ksw_end ((va.dropLast, na + 1, vb.eraseIdx ((leftF (fun y => List.count y seen) ns2).idxOf y), nb + 1, vm, nm), sl) F7 N7 (fun p hp => hp) trivial (by simp) ?_ ⟨rest.dropLast, seen ++ [y], hns', ha', ?_, ?_⟩ hlt
      · intro z _ hz
        have hz' : z ≠ Str.ofString "item" := by rintro rfl; revert hz; decide +kernel
        dsimp +zetaDelta only [kstB]
        rw [if_neg hz', hz]
        rfl
      · dsimp only
        rw [← unord_hit]
        exact sErase y hb
      · rw [← unord_same hy2]
        exact hm
    · refine remove_none (vs := vb) (ns := leftF (fun y => List.count y seen) ns2) (D := l2) (n := nb) (by assumption) (by k_mem) rfl hb hy2 fun h7 tk7 e7 hx7 => ?_
      have tiX := hx7
      (repeat' ((fail_if_success (with_reducible show wpAny _ _ (call (Value.builtin "list.append") _) _ _ _)); (first | (k_unfold; (try dsimp only)) | ((with_reducible show wpAny _ _ (execs (_ :: _) _) _ _ _); first | k_gentoks | ((with_reducible refine wpAny_execs_cons ?_); k_fold)) | ((first | ((with_reducible show wpAny _ _ (storeName _ _ _) _ _ _); k_dflt (refine' storeX_M ?Fz ?Nz ?_ ?az ?bz; (case Fz => k_asm); (case Nz => k_asm); (case az => rfl); (case bz => rfl); k_whole; intro _ _ _ _; (try k_sweep))) | fail "none")) | walk1 | dsimp only)))
      rename_i hA slA tiFA hB h8 F6 N6
      refine' append_K F6 N6 ?ku ?_ ?kz
      case ku => k_upd
      case kz => rw [sizeLine_eq]; simp; omega
      intro h9 F8 N8
      (repeat' (first | (k_unfold; (try dsimp only)) | (k_end; wrow_close) | ((with_reducible show wpAny _ _ (execs (_ :: _) _) _ _ _); first | k_gentoks | ((with_reducible refine wpAny_execs_cons ?_); k_fold)) | ((first | ((with_reducible show wpAny _ _ (storeName _ _ _) _ _ _); k_dflt (refine' storeX_M ?Fz ?Nz ?_ ?az ?bz; (case Fz => k_asm); (case Nz => k_asm); (case az => rfl); (case bz => rfl); k_whole; intro _ _ _ _; (try k_sweep))) | fail "none")) | walk1 | dsimp only | (leave1; walk_say "STEP leave1"; try dsimp only) | fail "no step"))
      refine ksw_end ((va.dropLast, na + 1, vb, nb, vm ++ [.str y ty], nm + 1), slA) F8 N8 ?_ trivial (by simp) ?_ ⟨rest.dropLast, seen ++ [y], hns', ha', ?_, ?_⟩ hlt
      · dsimp only
        rw [show (vm ++ [Value.str y ty]).toArray = vm.toArray.push (Value.str y ty) from by simp]
        exact fun p hp => hp
      · intro z _ hz
        have hz' : z ≠ Str.ofString "item" := by rintro rfl; revert hz; decide +kernel
        dsimp +zetaDelta only [kstB]
        rw [if_neg hz', hz]
        rfl
      · dsimp only
        rw [← (unord_miss hy2).1]
        exact hb
      · dsimp only
        rw [← (unord_miss hy2).2]
        exact StrsAre.append' hm (.cons y ty .nil)
end
section
noncomputable def sltP (x y : Str) : Prop := x.cps.toList < y.cps.toList
theorem slt_irr : ∀ x : Str, ¬ sltP x x := fun x => List.lt_irrefl _
theorem slt_tr : ∀ x y z : Str, sltP x y → sltP y z → sltP x z := fun x y z h1 h2 => List.lt_trans h1 h2
theorem slt_eq {x y : Str} (h1 : ¬ sltP x y) (h2 : ¬ sltP y x) : x = y := by
  obtain ⟨a⟩ := x; obtain ⟨b⟩ := y
  exact congrArg Str.mk (Array.toList_inj.mp (List.le_antisymm (List.not_lt.mp h2) (List.not_lt.mp h1)))
theorem suff {P G : Prop} (p : P) (k : P → G) : G := k p
structure SdSt where
  i : Nat
  j : Nat
  ti : Tok
  tj : Tok
  vm : List Value
  nm : Nat
  vu : List Value
  nu : Nat
  sl : Array (Option Value)
theorem sdiff_spec {w : World} {s : Shared} {Q E : Value → Shared → Prop} {dp un : Nat} {gd : Option (List Code)} {cn : Str} {cs : Scope} {L a : Addr} {ccd : Value} {cl : List (Str × Addr)} {h₀ : Heap} {m : Str → Option Value} {mean : ExcName → Option Value} {mg mb : Str → Option Value}
    {l1 l2 : Addr} {vs1 vs2 : List Value} {ns1 ns2 : List Str} {n1 n2 : Nat} (F : Fr h₀ L s.heap m) (X : (tKf w.params).In h₀) (T : Top topProg loose mean mg mb h₀) (hk : cs.kind = .function) (h1 : dp + 2 < 1000) (N : News h₀ L s.heap [(l1, listOf vs1.toArray n1), (l2, listOf vs2.toArray n2)]) (hne : @Ne Nat l1 l2)
    (hv1 : StrsAre vs1 ns1) (hv2 : StrsAre vs2 ns2) (hz1 : ns1.length ≤ 1000) (hz2 : ns2.length ≤ 1000) (ho1 : ns1.Pairwise sltP) (ho2 : ns2.Pairwise sltP)
    (h : ∀ T M U vM nM vU nU h' tk', Fr h₀ L h' m → Kx [L, l1, l2] s.heap h' → s.heap.get? T = none → s.heap.get? M = none → s.heap.get? U = none → (@Ne Nat M T ∧ @Ne Nat U T ∧ @Ne Nat U M) → h'.get? T = some { cls := .type "tuple", data := .seq #[.ref M, .ref U] } →
      h'.get? M = some (listOf (List.toArray vM) nM) → StrsAre vM (outF ns1 ns2) → h'.get? U = some (listOf (List.toArray vU) nU) → StrsAre vU (outF ns2 ns1) → Q (.ref T) { s with heap := h', toks := tk' }) :
    wpAny (model prog w) (ktrTop dp un gd cn cs L a ccd cl []) (call (.ref 51) [.ref l1, .ref l2]) Q E s := by
  have h1' : dp + (1 + 1) < 1000 := h1
  refine wpAny_call ?_
  k_dflt (refine' code_defT ?k1 ?k2 ?k3 ?k4 ?kA ?kF ?kK ?k6 ?k7 ?k8 ?k9 ?kB ?_ ?c2 ?c3 ?c4 ?c5; (case kA => exact rfl); (case kF => exact rfl); (case kK => assumption); (case k1 => k_asm); (case k2 => k_asm); (case k3 => k_asm); (case k4 => k_asm); (case k6 => k_is); (case k7 => k_is); (case k8 => exact room (by assumption)); (case k9 => first | exact BindsTo.of_eq rfl | exact binds_K (by k_in) rfl (by k_is) rfl rfl rfl); (case c5 => decide); (case kB => exact locs rfl); (case c2 => exact rfl); (case c3 => exact rfl); (case c4 => exact rfl); k_whole; intro _ _ _ _ _ _ _ _ _ _ _ _ _ _ _ N'; (try simp only [List.cons_append, List.nil_append] at N'); (try dsimp only))
  k_fold
  (repeat' ((fail_if_success (with_reducible show wpAny _ _ (exec (PySem.Stmt.While _ _ _ _) _) _ _ _)); (first | (k_unfold; (try dsimp only)) | ((with_reducible show wpAny _ _ (execs (_ :: _) _) _ _ _); first | k_gentoks | ((with_reducible refine wpAny_execs_cons ?_); k_fold)) | ((first | ((with_reducible show wpAny _ _ (storeName _ _ _) _ _ _); k_dflt (refine' storeX_M ?Fz ?Nz ?_ ?az ?bz; (case Fz => k_asm); (case Nz => k_asm); (case az => rfl); (case bz => rfl); k_whole; intro _ _ _ _; (try k_sweep))) | fail "none")) | walk1 | dsimp only)))
  rename_i g L' oL h0 GS tiC tiF hoL lN lL nL kp XX TT _ _ tk0 _ _ ha _ hb _ _ _ _ M hc lM hd' _ tk1 _ _ U he lU hf _ F1 N1
  obtain ⟨lM1, lM2, lM3⟩ := lM
  obtain ⟨tc1, tc2, tc3⟩ := id tiC
  obtain ⟨lU0, lU1, lU2, lU3⟩ := lU
  have n1L : @Ne Nat l1 L := nL (l1, _) (.head _)
  have n2L : @Ne Nat l2 L := nL (l2, _) (.tail _ (.head _))
  have q1L : @LT.lt Nat _ l1 L' := lN (l1, _) (.head _)
  have q2L : @LT.lt Nat _ l2 L' := lN (l2, _) (.tail _ (.head _))
  clear nL lN
  refine ksw_while (σ := SdSt) (fun c => [(U, listOf c.vu.toArray c.nu), (M, listOf c.vm.toArray c.nm), (l1, listOf vs1.toArray n1), (l2, listOf vs2.toArray n2), (L, { oL with slots := c.sl })]) (fun c => [(Str.ofString "j", .int (c.j : Nat) c.tj), (Str.ofString "i", .int (c.i : Nat) c.ti)]) (fun _ => True) [Str.ofString "e", Str.ofString "a"]
    (fun c => ∃ mis unx, SInv sltP ns1 ns2 c.i c.j mis unx ∧ StrsAre c.vm mis ∧ StrsAre c.vu unx) (fun c => ns1.length + ns2.length - c.i - c.j) ⟨0, 0, tk0, tk0, [], 0, [], 0, oL.slots⟩ F1 N1 trivial ?hps ⟨[], [], SInv.start _ _, .nil, .nil⟩ ?turn
  case hps =>
    intro p hp
    simp only [List.mem_cons, List.not_mem_nil, or_false] at hp
    rcases hp with rfl | rfl
    · exact rfl
    · exact rfl
  rintro ⟨i, j, ti, tj, vm, nm, vu, nu, sl⟩ u h5 tk5 - hY135z F2 N2
  refine ex2 hY135z ?_
  intro mis unx hZ136z
  clear hY135z
  refine and3 hZ136z ?_
  intro hinv hm hu
  clear hZ136z
  dsimp only at hinv hm hu
  have F3 : Fr g L' h5 _ := F2
  have N3 : News g L' h5 [(U, listOf vu.toArray nu), (M, listOf vm.toArray nm), (l1, listOf vs1.toArray n1), (l2, listOf vs2.toArray n2), (L, { oL with slots := sl })] := N2
  have tiF3 : TI.Frs [envX cn cs L a ccd cl] [(L, { oL with slots := sl })] := ⟨tiF.1, tiF.2.1, tiF.2.2.1, trivial⟩
  clear F2 N2 F1 N1 tiF
  have hi1 : i ≤ ns1.length := hinv.hi
  have hj1 : j ≤ ns2.length := hinv.hj
  have hlen1 := hv1.length
  have hlen2 := hv2.length
  have hmz : vm.length ≤ 1000 := by rw [hm.length, hinv.mis]; exact Nat.le_trans (List.length_filter_le _ _) (Nat.le_trans (by rw [List.length_take]; omega) hz1)
  have huz : vu.length ≤ 1000 := by rw [hu.length, hinv.unx]; exact Nat.le_trans (List.length_filter_le _ _) (Nat.le_trans (by rw [List.length_take]; omega) hz2)
  (repeat' ((fail_if_success (with_reducible show wpAny _ _ (execs (_ :: _) _) _ _ _)); (first | (k_unfold; (try dsimp only)) | ((with_reducible show wpAny _ _ (execs (_ :: _) _) _ _ _); first | k_gentoks | ((with_reducible refine wpAny_execs_cons ?_); k_fold)) | ((first | ((with_reducible show wpAny _ _ (storeName _ _ _) _ _ _); k_dflt (refine' storeX_M ?Fz ?Nz ?_ ?az ?bz; (case Fz => k_asm); (case Nz => k_asm); (case az => rfl); (case bz => rfl); k_whole; intro _ _ _ _; (try k_sweep))) | fail "none")) | walk1 | dsimp only)))
  refine wpAny_execs_cons ?_
  k_fold
  refine' suff (P := ∀ (e6 : Addr) (i j : Nat) (ti tj : Tok) (vm vu : List Value) (nm nu : Nat) (sl : Array (Option Value)) (mis unx : List Str) (m' : Str → Option Value) (h' : Heap) (tk' : Nat), SInv sltP ns1 ns2 i j mis unx → (ns1[i]? = none ∨ ns2[j]? = none) → StrsAre vm mis → StrsAre vu unx →
    Fr g L' h' m' → m' (Str.ofString "expected") = some (.ref l1) → m' (Str.ofString "actual") = some (.ref l2) → m' (Str.ofString "missing") = some (.ref M) → m' (Str.ofString "unexpected") = some (.ref U) → m' (Str.ofString "i") = some (.int (i : Nat) ti) → m' (Str.ofString "j") = some (.int (j : Nat) tj) →
    News g L' h' [(U, listOf vu.toArray nu), (M, listOf vm.toArray nm), (l1, listOf vs1.toArray n1), (l2, listOf vs2.toArray n2), (L, { oL with slots := sl })] → wpAny (model prog w) (((ktrTop dp un gd cn cs L a ccd cl []).deeper _).mark (some (.ref e6))) (execs _ _) qk ek ⟨h', s.gens, s.drawn, tk', s.os⟩) ?hhnd (fun hnd => ?hmain)
  case hmain =>
    (repeat' ((fail_if_success (with_reducible show wpAny _ _ (subscriptTail _ _ _ _) _ _ _)); (first | (k_unfold; (try dsimp only)) | ((with_reducible show wpAny _ _ (execs (_ :: _) _) _ _ _); first | k_gentoks | ((with_reducible refine wpAny_execs_cons ?_); k_fold)) | ((first | ((with_reducible show wpAny _ _ (storeName _ _ _) _ _ _); k_dflt (refine' storeX_M ?Fz ?Nz ?_ ?az ?bz; (case Fz => k_asm); (case Nz => k_asm); (case az => rfl); (case bz => rfl); k_whole; intro _ _ _ _; (try k_sweep))) | fail "none")) | walk1 | dsimp only)))
    cases he : ns1[i]? with
    | none =>
      refine sub_out (i := i) (vs := vs1) (ns := ns1) rfl (News.isList (by assumption) (by k_mem)) hv1 (by first | rfl | ((try dsimp only); omega)) he (by omega) fun h6 tk6 e6 hx6 => ?_
      (repeat' ((fail_if_success (with_reducible show wpAny _ _ (execs (PySem.Stmt.Expr _ _ :: PySem.Stmt.Expr _ _ :: _) _) _ _ _)); (first | (k_unfold; (try dsimp only)) | ((with_reducible show wpAny _ _ (execs (_ :: _) _) _ _ _); first | k_gentoks | ((with_reducible refine wpAny_execs_cons ?_); k_fold)) | ((first | ((with_reducible show wpAny _ _ (storeName _ _ _) _ _ _); k_dflt (refine' storeX_M ?Fz ?Nz ?_ ?az ?bz; (case Fz => k_asm); (case Nz => k_asm); (case az => rfl); (case bz => rfl); k_whole; intro _ _ _ _; (try k_sweep))) | fail "none")) | walk1 | dsimp only)))
      (with_reducible rename Fr _ _ _ _ => Fh9)
      (with_reducible rename News _ _ _ _ => Nh9)
      refine' hnd _ i j _ _ _ _ _ _ _ _ _ _ _ _ (hinv) ((Or.inl he : ns1[i]? = none ∨ ns2[j]? = none)) hm hu Fh9 ?x1 ?x2 ?x3 ?x4 ?x5 ?x6 (news_sub Nh9 ?x7)
      case x7 => (try simp only [List.push_toArray, ← List.append_toArray]); kd_inAll
      case x1 => first | rfl | with_unfolding_all rfl
      case x2 => first | rfl | with_unfolding_all rfl
      case x3 => first | rfl | with_unfolding_all rfl
      case x4 => first | rfl | with_unfolding_all rfl
      case x5 => first | rfl | with_unfolding_all rfl
      case x6 => first | rfl | with_unfolding_all rfl
    | some e =>
      refine sub_hit (i := i) (vs := vs1) (ns := ns1) (News.isList (by assumption) (by k_mem)) hv1 (by first | rfl | ((try dsimp only); omega)) he hz1 fun te => ?_
      (repeat' ((fail_if_success (with_reducible show wpAny _ _ (subscriptTail _ _ _ _) _ _ _)); (first | (k_unfold; (try dsimp only)) | ((with_reducible show wpAny _ _ (execs (_ :: _) _) _ _ _); first | k_gentoks | ((with_reducible refine wpAny_execs_cons ?_); k_fold)) | ((first | ((with_reducible show wpAny _ _ (storeName _ _ _) _ _ _); k_dflt (refine' storeX_M ?Fz ?Nz ?_ ?az ?bz; (case Fz => k_asm); (case Nz => k_asm); (case az => rfl); (case bz => rfl); k_whole; intro _ _ _ _; (try k_sweep))) | fail "none")) | walk1 | dsimp only)))
      cases ha : ns2[j]? with
      | none =>
        refine sub_out (i := j) (vs := vs2) (ns := ns2) rfl (News.isList (by assumption) (by k_mem)) hv2 (by first | rfl | ((try dsimp only); omega)) ha (by omega) fun h6 tk6 e6 hx6 => ?_
        (repeat' ((fail_if_success (with_reducible show wpAny _ _ (execs (PySem.Stmt.Expr _ _ :: PySem.Stmt.Expr _ _ :: _) _) _ _ _)); (first | (k_unfold; (try dsimp only)) | ((with_reducible show wpAny _ _ (execs (_ :: _) _) _ _ _); first | k_gentoks | ((with_reducible refine wpAny_execs_cons ?_); k_fold)) | ((first | ((with_reducible show wpAny _ _ (storeName _ _ _) _ _ _); k_dflt (refine' storeX_M ?Fz ?Nz ?_ ?az ?bz; (case Fz => k_asm); (case Nz => k_asm); (case az => rfl); (case bz => rfl); k_whole; intro _ _ _ _; (try k_sweep))) | fail "none")) | walk1 | dsimp only)))
        (with_reducible rename Fr _ _ _ _ => Fh9)
        (with_reducible rename News _ _ _ _ => Nh9)
        refine' hnd _ i j _ _ _ _ _ _ _ _ _ _ _ _ (hinv) ((Or.inr ha : ns1[i]? = none ∨ ns2[j]? = none)) hm hu Fh9 ?x1 ?x2 ?x3 ?x4 ?x5 ?x6 (news_sub Nh9 ?x7)
        case x7 => (try simp only [List.push_toArray, ← List.append_toArray]); kd_inAll
        case x1 => first | rfl | with_unfolding_all rfl
        case x2 => first | rfl | with_unfolding_all rfl
        case x3 => first | rfl | with_unfolding_all rfl
        case x4 => first | rfl | with_unfolding_all rfl
        case x5 => first | rfl | with_unfolding_all rfl
        case x6 => first | rfl | with_unfolding_all rfl
      | some y =>
        refine sub_hit (i := j) (vs := vs2) (ns := ns2) (News.isList (by assumption) (by k_mem)) hv2 (by first | rfl | ((try dsimp only); omega)) ha hz2 fun ta => ?_
        have hil : i < ns1.length := (List.getElem?_eq_some_iff.mp he).1
        have hjl : j < ns2.length := (List.getElem?_eq_some_iff.mp ha).1
        (repeat' ((fail_if_success (with_reducible show wpAny _ _ (compareOp _ _ _) _ _ _)); (first | (k_unfold; (try dsimp only)) | ((with_reducible show wpAny _ _ (execs (_ :: _) _) _ _ _); first | k_gentoks | ((with_reducible refine wpAny_execs_cons ?_); k_fold)) | ((first | ((with_reducible show wpAny _ _ (storeName _ _ _) _ _ _); k_dflt (refine' storeX_M ?Fz ?Nz ?_ ?az ?bz; (case Fz => k_asm); (case Nz => k_asm); (case az => rfl); (case bz => rfl); k_whole; intro _ _ _ _; (try k_sweep))) | fail "none")) | walk1 | dsimp only)))
        refine lt_str ?_
        by_cases hlt : e.cps.toList < y.cps.toList
        · rw [decide_eq_true hlt]
          have hinv2 := hinv.less ho1 ho2 he ha hlt slt_irr slt_tr
          (repeat' ((fail_if_success (with_reducible show wpAny _ _ (call (Value.builtin "list.append") _) _ _ _)); (first | (k_unfold; (try dsimp only)) | ((with_reducible show wpAny _ _ (execs (_ :: _) _) _ _ _); first | k_gentoks | ((with_reducible refine wpAny_execs_cons ?_); k_fold)) | ((first | ((with_reducible show wpAny _ _ (storeName _ _ _) _ _ _); k_dflt (refine' storeX_M ?Fz ?Nz ?_ ?az ?bz; (case Fz => k_asm); (case Nz => k_asm); (case az => rfl); (case bz => rfl); k_whole; intro _ _ _ _; (try k_sweep))) | fail "none")) | walk1 | dsimp only)))
          refine' append_K (by assumption) (by assumption) ?ku ?_ ?kz
          case ku => k_upd
          case kz => rw [sizeLine_eq]; simp; omega
          intro h7 F5 N5
          (repeat' ((fail_if_success (with_reducible show wpAny _ _ (exec (PySem.Stmt.While _ _ _ _) _) _ _ _)); (first | (k_unfold; (try dsimp only)) | ((with_reducible show wpAny _ _ (execs (_ :: _) _) _ _ _); first | k_gentoks | ((with_reducible refine wpAny_execs_cons ?_); k_fold)) | ((first | ((with_reducible show wpAny _ _ (storeName _ _ _) _ _ _); k_dflt (refine' storeX_M ?Fz ?Nz ?_ ?az ?bz; (case Fz => k_asm); (case Nz => k_asm); (case az => rfl); (case bz => rfl); k_whole; intro _ _ _ _; (try k_sweep))) | fail "none")) | walk1 | dsimp only)))
          refine while_zero ?_
          (repeat' ((fail_if_success (with_reducible show wpAny _ _ (subscriptTail _ _ _ _) _ _ _)); (first | (k_unfold; (try dsimp only)) | ((with_reducible show wpAny _ _ (execs (_ :: _) _) _ _ _); first | k_gentoks | ((with_reducible refine wpAny_execs_cons ?_); k_fold)) | ((first | ((with_reducible show wpAny _ _ (storeName _ _ _) _ _ _); k_dflt (refine' storeX_M ?Fz ?Nz ?_ ?az ?bz; (case Fz => k_asm); (case Nz => k_asm); (case az => rfl); (case bz => rfl); k_whole; intro _ _ _ _; (try k_sweep))) | fail "none")) | walk1 | dsimp only)))
          cases hx : ns1[i + 1]? with
          | none =>
            refine sub_out (i := i + 1) (vs := vs1) (ns := ns1) rfl (News.isList (by assumption) (by k_mem)) hv1 (by first | rfl | ((try dsimp only); omega)) hx (by omega) fun h6 tk6 e6 hx6 => ?_
            (repeat' ((fail_if_success (with_reducible show wpAny _ _ (execs (PySem.Stmt.Expr _ _ :: PySem.Stmt.Expr _ _ :: _) _) _ _ _)); (first | (k_unfold; (try dsimp only)) | ((with_reducible show wpAny _ _ (execs (_ :: _) _) _ _ _); first | k_gentoks | ((with_reducible refine wpAny_execs_cons ?_); k_fold)) | ((first | ((with_reducible show wpAny _ _ (storeName _ _ _) _ _ _); k_dflt (refine' storeX_M ?Fz ?Nz ?_ ?az ?bz; (case Fz => k_asm); (case Nz => k_asm); (case az => rfl); (case bz => rfl); k_whole; intro _ _ _ _; (try k_sweep))) | fail "none")) | walk1 | dsimp only)))
            (with_reducible rename Fr _ _ _ _ => Fh9)
            (with_reducible rename News _ _ _ _ => Nh9)
            refine' hnd _ (i + 1) j _ _ _ _ _ _ _ _ _ _ _ _ (hinv2) ((Or.inl hx : ns1[i + 1]? = none ∨ ns2[j]? = none)) (StrsAre.append' hm (.cons e te .nil)) hu Fh9 ?x1 ?x2 ?x3 ?x4 ?x5 ?x6 (news_sub Nh9 ?x7)
            case x7 => (try simp only [List.push_toArray, ← List.append_toArray]); kd_inAll
            case x1 => first | rfl | with_unfolding_all rfl
            case x2 => first | rfl | with_unfolding_all rfl
            case x3 => first | rfl | with_unfolding_all rfl
            case x4 => first | rfl | with_unfolding_all rfl
            case x5 => first | rfl | with_unfolding_all rfl
            case x6 => first | rfl | with_unfolding_all rfl
          | some x =>
            have hxe : (x == e) = false := by
              have hxx : sltP e x := drop_gt' ho1 he x (mem_drop_of hx)
              rw [beq_eq_false_iff_ne]; rintro rfl; exact slt_irr _ hxx
            refine sub_hit (i := i + 1) (vs := vs1) (ns := ns1) (News.isList (by assumption) (by k_mem)) hv1 (by first | rfl | ((try dsimp only); omega)) hx hz1 fun tx => ?_
            (repeat' ((fail_if_success (with_reducible show wpAny _ _ (compareOp _ _ _) _ _ _)); (first | (k_unfold; (try dsimp only)) | ((with_reducible show wpAny _ _ (execs (_ :: _) _) _ _ _); first | k_gentoks | ((with_reducible refine wpAny_execs_cons ?_); k_fold)) | ((first | ((with_reducible show wpAny _ _ (storeName _ _ _) _ _ _); k_dflt (refine' storeX_M ?Fz ?Nz ?_ ?az ?bz; (case Fz => k_asm); (case Nz => k_asm); (case az => rfl); (case bz => rfl); k_whole; intro _ _ _ _; (try k_sweep))) | fail "none")) | walk1 | dsimp only)))
            refine eq_str ?_
            rw [hxe]
            refine wpAny_truthy_bool ⟨rfl, ?_⟩
            (repeat' (first | (k_unfold; (try dsimp only)) | (k_end; wrow_close) | ((with_reducible show wpAny _ _ (execs (_ :: _) _) _ _ _); first | k_gentoks | ((with_reducible refine wpAny_execs_cons ?_); k_fold)) | ((first | ((with_reducible show wpAny _ _ (storeName _ _ _) _ _ _); k_dflt (refine' storeX_M ?Fz ?Nz ?_ ?az ?bz; (case Fz => k_asm); (case Nz => k_asm); (case az => rfl); (case bz => rfl); k_whole; intro _ _ _ _; (try k_sweep))) | fail "none")) | walk1 | dsimp only | (leave1; walk_say "STEP leave1"; try dsimp only) | fail "no step"))
            refine' ksw_end ⟨i + 1, j, ?tnew, tj, vm ++ [Value.str e te], nm + 1, vu, nu, sl⟩ (by assumption) (by assumption) ?eN trivial ?eK ?eR ⟨_, _, hinv2, StrsAre.append' hm (.cons e te .nil), hu⟩ ?eM
            case eK =>
              intro p hp
              simp only [List.mem_cons, List.not_mem_nil, or_false] at hp
              rcases hp with rfl | rfl
              · exact rfl
              · exact rfl
            case eN =>
              dsimp only
              (try rw [← List.push_toArray])
              exact fun p hp => hp
            case eR =>
              intro z hz3 hz4
              have z1 : z ≠ Str.ofString "j" := hz3 (Str.ofString "j", _) (.head _)
              have z2 : z ≠ Str.ofString "i" := hz3 (Str.ofString "i", _) (.tail _ (.head _))
              have z3 : z ≠ Str.ofString "e" := by rintro rfl; revert hz4; decide +kernel
              have z4 : z ≠ Str.ofString "a" := by rintro rfl; revert hz4; decide +kernel
              simp +zetaDelta only [kstB, if_neg z1, if_neg z2, if_neg z3, if_neg z4, hz4, Bool.false_eq_true, if_false]
            case eM =>
              dsimp only
              omega
        · rw [decide_eq_false hlt]
          (repeat' ((fail_if_success (with_reducible show wpAny _ _ (compareOp _ _ _) _ _ _)); (first | (k_unfold; (try dsimp only)) | ((with_reducible show wpAny _ _ (execs (_ :: _) _) _ _ _); first | k_gentoks | ((with_reducible refine wpAny_execs_cons ?_); k_fold)) | ((first | ((with_reducible show wpAny _ _ (storeName _ _ _) _ _ _); k_dflt (refine' storeX_M ?Fz ?Nz ?_ ?az ?bz; (case Fz => k_asm); (case Nz => k_asm); (case az => rfl); (case bz => rfl); k_whole; intro _ _ _ _; (try k_sweep))) | fail "none")) | walk1 | dsimp only)))
          refine P.gt_str ?_
          by_cases hgt : y.cps.toList < e.cps.toList
          · rw [decide_eq_true hgt]
            have hinv2 := (hinv.swap.less ho2 ho1 ha he hgt slt_irr slt_tr).swap
            (repeat' ((fail_if_success (with_reducible show wpAny _ _ (call (Value.builtin "list.append") _) _ _ _)); (first | (k_unfold; (try dsimp only)) | ((with_reducible show wpAny _ _ (execs (_ :: _) _) _ _ _); first | k_gentoks | ((with_reducible refine wpAny_execs_cons ?_); k_fold)) | ((first | ((with_reducible show wpAny _ _ (storeName _ _ _) _ _ _); k_dflt (refine' storeX_M ?Fz ?Nz ?_ ?az ?bz; (case Fz => k_asm); (case Nz => k_asm); (case az => rfl); (case bz => rfl); k_whole; intro _ _ _ _; (try k_sweep))) | fail "none")) | walk1 | dsimp only)))
            refine' append_K (by assumption) (by assumption) ?ku ?_ ?kz
            case ku => k_upd
            case kz => rw [sizeLine_eq]; simp; omega
            intro h7 F5 N5
            (repeat' ((fail_if_success (with_reducible show wpAny _ _ (exec (PySem.Stmt.While _ _ _ _) _) _ _ _)); (first | (k_unfold; (try dsimp only)) | ((with_reducible show wpAny _ _ (execs (_ :: _) _) _ _ _); first | k_gentoks | ((with_reducible refine wpAny_execs_cons ?_); k_fold)) | ((first | ((with_reducible show wpAny _ _ (storeName _ _ _) _ _ _); k_dflt (refine' storeX_M ?Fz ?Nz ?_ ?az ?bz; (case Fz => k_asm); (case Nz => k_asm); (case az => rfl); (case bz => rfl); k_whole; intro _ _ _ _; (try k_sweep))) | fail "none")) | walk1 | dsimp only)))
            refine while_zero ?_
            (repeat' ((fail_if_success (with_reducible show wpAny _ _ (subscriptTail _ _ _ _) _ _ _)); (first | (k_unfold; (try dsimp only)) | ((with_reducible show wpAny _ _ (execs (_ :: _) _) _ _ _); first | k_gentoks | ((with_reducible refine wpAny_execs_cons ?_); k_fold)) | ((first | ((with_reducible show wpAny _ _ (storeName _ _ _) _ _ _); k_dflt (refine' storeX_M ?Fz ?Nz ?_ ?az ?bz; (case Fz => k_asm); (case Nz => k_asm); (case az => rfl); (case bz => rfl); k_whole; intro _ _ _ _; (try k_sweep))) | fail "none")) | walk1 | dsimp only)))
            cases hx : ns2[j + 1]? with
            | none =>
              refine sub_out (i := j + 1) (vs := vs2) (ns := ns2) rfl (News.isList (by assumption) (by k_mem)) hv2 (by first | rfl | ((try dsimp only); omega)) hx (by omega) fun h6 tk6 e6 hx6 => ?_
              (repeat' ((fail_if_success (with_reducible show wpAny _ _ (execs (PySem.Stmt.Expr _ _ :: PySem.Stmt.Expr _ _ :: _) _) _ _ _)); (first | (k_unfold; (try dsimp only)) | ((with_reducible show wpAny _ _ (execs (_ :: _) _) _ _ _); first | k_gentoks | ((with_reducible refine wpAny_execs_cons ?_); k_fold)) | ((first | ((with_reducible show wpAny _ _ (storeName _ _ _) _ _ _); k_dflt (refine' storeX_M ?Fz ?Nz ?_ ?az ?bz; (case Fz => k_asm); (case Nz => k_asm); (case az => rfl); (case bz => rfl); k_whole; intro _ _ _ _; (try k_sweep))) | fail "none")) | walk1 | dsimp only)))
              (with_reducible rename Fr _ _ _ _ => Fh9)
              (with_reducible rename News _ _ _ _ => Nh9)
              refine' hnd _ i (j + 1) _ _ _ _ _ _ _ _ _ _ _ _ (hinv2) ((Or.inr hx : ns1[i]? = none ∨ ns2[j + 1]? = none)) hm (StrsAre.append' hu (.cons y ta .nil)) Fh9 ?x1 ?x2 ?x3 ?x4 ?x5 ?x6 (news_sub Nh9 ?x7)
              case x7 => (try simp only [List.push_toArray, ← List.append_toArray]); kd_inAll
              case x1 => first | rfl | with_unfolding_all rfl
              case x2 => first | rfl | with_unfolding_all rfl
              case x3 => first | rfl | with_unfolding_all rfl
              case x4 => first | rfl | with_unfolding_all rfl
              case x5 => first | rfl | with_unfolding_all rfl
              case x6 => first | rfl | with_unfolding_all rfl
            | some x =>
              have hxe : (x == y) = false := by
                have hxx : sltP y x := drop_gt' ho2 ha x (mem_drop_of hx)
                rw [beq_eq_false_iff_ne]; rintro rfl; exact slt_irr _ hxx
              refine sub_hit (i := j + 1) (vs := vs2) (ns := ns2) (News.isList (by assumption) (by k_mem)) hv2 (by first | rfl | ((try dsimp only); omega)) hx hz2 fun tx => ?_
              (repeat' ((fail_if_success (with_reducible show wpAny _ _ (compareOp _ _ _) _ _ _)); (first | (k_unfold; (try dsimp only)) | ((with_reducible show wpAny _ _ (execs (_ :: _) _) _ _ _); first | k_gentoks | ((with_reducible refine wpAny_execs_cons ?_); k_fold)) | ((first | ((with_reducible show wpAny _ _ (storeName _ _ _) _ _ _); k_dflt (refine' storeX_M ?Fz ?Nz ?_ ?az ?bz; (case Fz => k_asm); (case Nz => k_asm); (case az => rfl); (case bz => rfl); k_whole; intro _ _ _ _; (try k_sweep))) | fail "none")) | walk1 | dsimp only)))
              refine eq_str ?_
              rw [hxe]
              refine wpAny_truthy_bool ⟨rfl, ?_⟩
              (repeat' (first | (k_unfold; (try dsimp only)) | (k_end; wrow_close) | ((with_reducible show wpAny _ _ (execs (_ :: _) _) _ _ _); first | k_gentoks | ((with_reducible refine wpAny_execs_cons ?_); k_fold)) | ((first | ((with_reducible show wpAny _ _ (storeName _ _ _) _ _ _); k_dflt (refine' storeX_M ?Fz ?Nz ?_ ?az ?bz; (case Fz => k_asm); (case Nz => k_asm); (case az => rfl); (case bz => rfl); k_whole; intro _ _ _ _; (try k_sweep))) | fail "none")) | walk1 | dsimp only | (leave1; walk_say "STEP leave1"; try dsimp only) | fail "no step"))
              refine' ksw_end ⟨i, j + 1, ti, ?tnew2, vm, nm, vu ++ [Value.str y ta], nu + 1, sl⟩ (by assumption) (by assumption) ?eN trivial ?eK ?eR ⟨_, _, hinv2, hm, StrsAre.append' hu (.cons y ta .nil)⟩ ?eM
              case eK =>
                intro p hp
                simp only [List.mem_cons, List.not_mem_nil, or_false] at hp
                rcases hp with rfl | rfl
                · exact rfl
                · exact rfl
              case eN =>
                dsimp only
                (try rw [← List.push_toArray])
                exact fun p hp => hp
              case eR =>
                intro z hz3 hz4
                have z1 : z ≠ Str.ofString "j" := hz3 (Str.ofString "j", _) (.head _)
                have z2 : z ≠ Str.ofString "i" := hz3 (Str.ofString "i", _) (.tail _ (.head _))
                have z3 : z ≠ Str.ofString "e" := by rintro rfl; revert hz4; decide +kernel
                have z4 : z ≠ Str.ofString "a" := by rintro rfl; revert hz4; decide +kernel
                simp +zetaDelta only [kstB, if_neg z1, if_neg z2, if_neg z3, if_neg z4, hz4, Bool.false_eq_true, if_false]
              case eM =>
                dsimp only
                omega
          · rw [decide_eq_false hgt]
            obtain rfl : e = y := slt_eq hlt hgt
            have hinv2 := hinv.same ho1 ho2 he ha
            (repeat' ((fail_if_success (with_reducible show wpAny _ _ (exec (PySem.Stmt.While _ _ _ _) _) _ _ _)); (first | (k_unfold; (try dsimp only)) | ((with_reducible show wpAny _ _ (execs (_ :: _) _) _ _ _); first | k_gentoks | ((with_reducible refine wpAny_execs_cons ?_); k_fold)) | ((first | ((with_reducible show wpAny _ _ (storeName _ _ _) _ _ _); k_dflt (refine' storeX_M ?Fz ?Nz ?_ ?az ?bz; (case Fz => k_asm); (case Nz => k_asm); (case az => rfl); (case bz => rfl); k_whole; intro _ _ _ _; (try k_sweep))) | fail "none")) | walk1 | dsimp only)))
            refine while_zero ?_
            (repeat' ((fail_if_success (with_reducible show wpAny _ _ (subscriptTail _ _ _ _) _ _ _)); (first | (k_unfold; (try dsimp only)) | ((with_reducible show wpAny _ _ (execs (_ :: _) _) _ _ _); first | k_gentoks | ((with_reducible refine wpAny_execs_cons ?_); k_fold)) | ((first | ((with_reducible show wpAny _ _ (storeName _ _ _) _ _ _); k_dflt (refine' storeX_M ?Fz ?Nz ?_ ?az ?bz; (case Fz => k_asm); (case Nz => k_asm); (case az => rfl); (case bz => rfl); k_whole; intro _ _ _ _; (try k_sweep))) | fail "none")) | walk1 | dsimp only)))
            cases hx : ns1[i + 1]? with
            | none =>
              refine sub_out (i := i + 1) (vs := vs1) (ns := ns1) rfl (News.isList (by assumption) (by k_mem)) hv1 (by first | rfl | ((try dsimp only); omega)) hx (by omega) fun h6 tk6 e6 hx6 => ?_
              (repeat' ((fail_if_success (with_reducible show wpAny _ _ (noteFrame _ _) _ _ _)); (first | (k_unfold; (try dsimp only)) | ((with_reducible show wpAny _ _ (execs (_ :: _) _) _ _ _); first | k_gentoks | ((with_reducible refine wpAny_execs_cons ?_); k_fold)) | ((first | ((with_reducible show wpAny _ _ (storeName _ _ _) _ _ _); k_dflt (refine' storeX_M ?Fz ?Nz ?_ ?az ?bz; (case Fz => k_asm); (case Nz => k_asm); (case az => rfl); (case bz => rfl); k_whole; intro _ _ _ _; (try k_sweep))) | fail "none")) | walk1 | dsimp only)))
              (with_reducible rename Fr _ _ _ _ => Fq)
              (with_reducible rename News _ _ _ _ => Nq)
              obtain ⟨oe, te0, he6, hc6, hd6⟩ := hx6.there
              have F6 : Fr g L' h6 _ := Fr.keeps Fq hx6.keeps
              have N6 : News g L' h6 ((e6, oe) :: [(U, listOf vu.toArray nu), (M, listOf vm.toArray nm), (l1, listOf vs1.toArray n1), (l2, listOf vs2.toArray n2)] ++ [(L, { oL with slots := sl })]) := news_more Fq Nq hx6.keeps hx6.new he6
              have l6 := ne_of_fresh Nq hx6.new
              have l6a : @Ne Nat U e6 := l6 (U, _) (.head _)
              have l6b : @Ne Nat M e6 := l6 (M, _) (.tail _ (.head _))
              have l6c : @Ne Nat l1 e6 := l6 (l1, _) (.tail _ (.tail _ (.head _)))
              have l6d : @Ne Nat l2 e6 := l6 (l2, _) (.tail _ (.tail _ (.tail _ (.head _))))
              have l6e : @Ne Nat L e6 := l6 (L, _) (.tail _ (.tail _ (.tail _ (.tail _ (.head _)))))
              clear Fq Nq hx6 l6
              refine noteX (new := [(U, listOf vu.toArray nu), (M, listOf vm.toArray nm), (l1, listOf vs1.toArray n1), (l2, listOf vs2.toArray n2)]) rfl tiF3 F6 N6 hd6 (by show 1 < 6; decide) rfl ?_ ?_ fun h7 T6 oT6 ts6 sl6 F7 N7 hdT h3T lT hTL => ?_
              · intro p hp
                simp only [List.mem_cons, List.not_mem_nil, or_false] at hp
                rcases hp with rfl | rfl | rfl | rfl <;> (refine neN ?_; omega)
              · intro p hp
                simp only [List.mem_cons, List.not_mem_nil, or_false] at hp
                rcases hp with rfl | rfl | rfl | rfl <;> assumption
              have t1 : @LT.lt Nat _ e6 T6 := lT (e6, _) (.head _)
              have t2 : @LT.lt Nat _ U T6 := lT (U, _) (.tail _ (.head _))
              have t3 : @LT.lt Nat _ M T6 := lT (M, _) (.tail _ (.tail _ (.head _)))
              have t4 : @LT.lt Nat _ l1 T6 := lT (l1, _) (.tail _ (.tail _ (.tail _ (.head _))))
              have t5 : @LT.lt Nat _ l2 T6 := lT (l2, _) (.tail _ (.tail _ (.tail _ (.tail _ (.head _)))))
              have t6 : @LT.lt Nat _ L T6 := lT (L, _) (.tail _ (.tail _ (.tail _ (.tail _ (.tail _ (.head _))))))
              clear lT
              have hdE := Obj.data_mapFields hd6 (·.setIfInBounds 1 (Value.ref T6))
              have hcE : (Obj.mapFields (·.setIfInBounds 1 (Value.ref T6)) oe).cls = .type "IndexError" := (Obj.cls_mapFields _ _).trans hc6
              generalize hoE : Obj.mapFields (·.setIfInBounds 1 (Value.ref T6)) oe = oE at N7 hdE hcE
              clear hoE N6 F6 he6 hc6 hd6
              have F7a : Fr g L' h7 _ := F7
              have N7a : News g L' h7 [(T6, oT6), (e6, oE), (U, listOf vu.toArray nu), (M, listOf vm.toArray nm), (l1, listOf vs1.toArray n1), (l2, listOf vs2.toArray n2), (L, { oL with slots := sl6 })] := N7
              clear F7 N7
              refine ⟨ref_ne_byPass _, ?_⟩
              refine againX (oT := oT6) N7a (by k_mem : (e6, oE) ∈ _) (by k_mem : (T6, oT6) ∈ _) hdE rfl hdT h3T rfl ?_
              have hts : 3 < ts6.size := (Array.getElem?_eq_some_iff.mp h3T).1
              refine' flightX (fr := none) F7a N7a (by k_mem : (e6, oE) ∈ _) hdE rfl ?fu hdT hts ?_
              case fu => k_updF
              intro h8 F8 N8
              have hdT2 := Obj.data_mapFields hdT (·.setIfInBounds 3 Value.none)
              have hT23 : (ts6.setIfInBounds 3 Value.none).size = ts6.size := by simp
              have F8a : Fr g L' h8 _ := F8
              have N8a : News g L' h8 [(T6, Obj.mapFields (·.setIfInBounds 3 Value.none) oT6), (e6, oE), (U, listOf vu.toArray nu), (M, listOf vm.toArray nm), (l1, listOf vs1.toArray n1), (l2, listOf vs2.toArray n2), (L, { oL with slots := sl6 })] := N8
              generalize Obj.mapFields (·.setIfInBounds 3 Value.none) oT6 = oT7 at N8a hdT2
              clear F8 N8 F7a N7a hdT h3T
              (repeat' ((fail_if_success (with_reducible show wpAny _ _ (exec (PySem.Stmt.While _ _ _ _) _) _ _ _)); (first | (k_unfold; (try dsimp only)) | ((with_reducible show wpAny _ _ (execs (_ :: _) _) _ _ _); first | k_gentoks | ((with_reducible refine wpAny_execs_cons ?_); k_fold)) | ((first | ((with_reducible show wpAny _ _ (storeName _ _ _) _ _ _); k_dflt (refine' storeX_M ?Fz ?Nz ?_ ?az ?bz; (case Fz => k_asm); (case Nz => k_asm); (case az => rfl); (case bz => rfl); k_whole; intro _ _ _ _; (try k_sweep))) | fail "none")) | walk1 | dsimp only)))
              refine while_zero ?_
              (repeat' ((fail_if_success (with_reducible show wpAny _ _ (subscriptTail _ _ _ _) _ _ _)); (first | (k_unfold; (try dsimp only)) | ((with_reducible show wpAny _ _ (execs (_ :: _) _) _ _ _); first | k_gentoks | ((with_reducible refine wpAny_execs_cons ?_); k_fold)) | ((first | ((with_reducible show wpAny _ _ (storeName _ _ _) _ _ _); k_dflt (refine' storeX_M ?Fz ?Nz ?_ ?az ?bz; (case Fz => k_asm); (case Nz => k_asm); (case az => rfl); (case bz => rfl); k_whole; intro _ _ _ _; (try k_sweep))) | fail "none")) | walk1 | dsimp only)))
              cases hy : ns2[j + 1]? with
              | none =>
                (with_reducible rename Fr _ _ _ _ => Fq)
                (with_reducible rename News _ _ _ _ => Nq)
                refine sub_outC (i := j + 1) (vs := vs2) (ns := ns2) (e0 := e6) (oe0 := oE) rfl (News.get Nq (by k_mem)) hdE rfl (News.isList Nq (by k_mem)) hv2 (by first | rfl | ((try dsimp only); omega)) hy (by omega) fun h9 tk9 e9 te9 kp9 en9 he0 => ?_
                obtain ⟨oE9, he9, hc9, hd9⟩ : ∃ o, h9.get? e9 = some o ∧ o.cls = .type "IndexError" ∧ o.data = .fields #[te9, .none, .ref e6, .none, .bool false, .none] := ⟨_, he0, rfl, rfl⟩
                have F6b : Fr g L' h9 _ := Fr.keeps Fq kp9
                have N6b : News g L' h9 ((e9, oE9) :: [(T6, oT7), (e6, oE), (U, listOf vu.toArray nu), (M, listOf vm.toArray nm), (l1, listOf vs1.toArray n1), (l2, listOf vs2.toArray n2)] ++ [(L, { oL with slots := sl6 })]) := news_more Fq Nq kp9 en9 he9
                have k6 := ne_of_fresh Nq en9
                have k6T6 : @Ne Nat T6 e9 := k6 (T6, _) (by k_mem)
                have k6e6 : @Ne Nat e6 e9 := k6 (e6, _) (by k_mem)
                have k6U : @Ne Nat U e9 := k6 (U, _) (by k_mem)
                have k6M : @Ne Nat M e9 := k6 (M, _) (by k_mem)
                have k6l1 : @Ne Nat l1 e9 := k6 (l1, _) (by k_mem)
                have k6l2 : @Ne Nat l2 e9 := k6 (l2, _) (by k_mem)
                have k6L : @Ne Nat L e9 := k6 (L, _) (by k_mem)
                clear Fq Nq k6
                try k_unmd
                repeat k_unfold
                try dsimp only
                unfold notedBy
                refine noteX (new := [(T6, oT7), (e6, oE), (U, listOf vu.toArray nu), (M, listOf vm.toArray nm), (l1, listOf vs1.toArray n1), (l2, listOf vs2.toArray n2)]) rfl ?frs F6b N6b hd9 (by show 1 < 6; decide) rfl ?_ ?_ fun h10 T9 oT9 ts9 sl9 F10 N10 hdT9 h3T9 lT9 hTL9 => ?_
                case frs => exact ⟨tiF3.1, tiF3.2.1, tiF3.2.2.1, trivial⟩
                · intro p hp
                  simp only [List.mem_cons, List.not_mem_nil, or_false] at hp
                  rcases hp with rfl | rfl | rfl | rfl | rfl | rfl <;> (refine neN ?_; omega)
                · intro p hp
                  simp only [List.mem_cons, List.not_mem_nil, or_false] at hp
                  rcases hp with rfl | rfl | rfl | rfl | rfl | rfl <;> assumption
                have m9e9 : @LT.lt Nat _ e9 T9 := lT9 (e9, _) (.head _)
                have m9T6 : @LT.lt Nat _ T6 T9 := lT9 (T6, _) (.tail _ (.head _))
                have m9e6 : @LT.lt Nat _ e6 T9 := lT9 (e6, _) (.tail _ (.tail _ (.head _)))
                have m9U : @LT.lt Nat _ U T9 := lT9 (U, _) (.tail _ (.tail _ (.tail _ (.head _))))
                have m9M : @LT.lt Nat _ M T9 := lT9 (M, _) (.tail _ (.tail _ (.tail _ (.tail _ (.head _)))))
                have m9l1 : @LT.lt Nat _ l1 T9 := lT9 (l1, _) (.tail _ (.tail _ (.tail _ (.tail _ (.tail _ (.head _))))))
                have m9l2 : @LT.lt Nat _ l2 T9 := lT9 (l2, _) (.tail _ (.tail _ (.tail _ (.tail _ (.tail _ (.tail _ (.head _)))))))
                have m9L : @LT.lt Nat _ L T9 := lT9 (L, _) (.tail _ (.tail _ (.tail _ (.tail _ (.tail _ (.tail _ (.tail _ (.head _))))))))
                clear lT9 F6b N6b
                have hdE9 := Obj.data_mapFields hd9 (·.setIfInBounds 1 (Value.ref T9))
                have hcE9 : (Obj.mapFields (·.setIfInBounds 1 (Value.ref T9)) oE9).cls = .type "IndexError" := (Obj.cls_mapFields _ _).trans hc9
                generalize Obj.mapFields (·.setIfInBounds 1 (Value.ref T9)) oE9 = oF9 at N10 hdE9 hcE9
                clear he9 hc9 hd9
                have F10a : Fr g L' h10 _ := F10
                have N10a : News g L' h10 [(T9, oT9), (e9, oF9), (T6, oT7), (e6, oE), (U, listOf vu.toArray nu), (M, listOf vm.toArray nm), (l1, listOf vs1.toArray n1), (l2, listOf vs2.toArray n2), (L, { oL with slots := sl9 })] := N10
                clear F10 N10
                have hts9 : 3 < ts9.size := (Array.getElem?_eq_some_iff.mp h3T9).1
                refine' backX (oT := oT9) F10a N10a (by k_mem : (e9, oF9) ∈ _) hdE9 rfl ?bu hdT9 hts9 rfl ?_
                case bu => k_updF
                intro h11 F11 N11
                have F11a : Fr g L' h11 _ := F11
                have N11a : News g L' h11 [(T9, _), (e9, oF9), (T6, oT7), (e6, oE), (U, listOf vu.toArray nu), (M, listOf vm.toArray nm), (l1, listOf vs1.toArray n1), (l2, listOf vs2.toArray n2), (L, { oL with slots := sl9 })] := N11
                have hdT10 := Obj.data_mapFields hdT9 (·.setIfInBounds 3 (rawInt L'))
                clear F11 N11 F10a N10a h3T9
                refine againX N11a (by k_mem : (e9, oF9) ∈ _) (by k_mem : (T9, _) ∈ _) hdE9 rfl hdT10 (field3 hts9) rfl ?_
                have ttN := heldX (rest := [(U, listOf vu.toArray nu), (M, listOf vm.toArray nm), (l1, listOf vs1.toArray n1), (l2, listOf vs2.toArray n2), (L, { oL with slots := sl9 })]) (s := ⟨h11, s.gens, s.drawn, 0, s.os⟩) F11a N11a (by k_mem : (e9, oF9) ∈ _) (by k_mem : (T9, _) ∈ _) hcE9 hdE9 rfl hdT10 (field3 hts9) (by kd_inAll) ?hne9 ?hte9
                case hne9 =>
                  intro p hp
                  simp only [List.mem_cons, List.not_mem_nil, or_false] at hp
                  rcases hp with rfl | rfl | rfl | rfl | rfl <;> (refine neN ?_; dsimp only; omega)
                case hte9 => refine neN ?_; omega
                dsimp only at ttN
                have ttHH := ttN.held
                clear F11a N11a hdT10
                (repeat' ((fail_if_success (with_reducible show wpAny _ _ (execs (PySem.Stmt.Expr _ _ :: PySem.Stmt.Expr _ _ :: _) _) _ _ _)); (first | (k_unfold; (try dsimp only)) | ((with_reducible show wpAny _ _ (execs (_ :: _) _) _ _ _); first | k_gentoks | ((with_reducible refine wpAny_execs_cons ?_); k_fold)) | ((first | ((with_reducible show wpAny _ _ (storeName _ _ _) _ _ _); k_dflt (refine' storeX_M ?Fz ?Nz ?_ ?az ?bz; (case Fz => k_asm); (case Nz => k_asm); (case az => rfl); (case bz => rfl); k_whole; intro _ _ _ _; (try k_sweep))) | fail "none")) | walk1 | dsimp only)))
                (with_reducible rename Fr _ _ _ _ => Fh9)
                (with_reducible rename News _ _ _ _ => Nh9)
                refine' hnd _ (i + 1) (j + 1) _ _ _ _ _ _ _ _ _ _ _ _ (hinv2) ((Or.inl hx : ns1[i + 1]? = none ∨ ns2[j + 1]? = none)) hm hu Fh9 ?x1 ?x2 ?x3 ?x4 ?x5 ?x6 (news_sub Nh9 ?x7)
                case x7 => (try simp only [List.push_toArray, ← List.append_toArray]); kd_inAll
                case x1 => first | rfl | with_unfolding_all rfl
                case x2 => first | rfl | with_unfolding_all rfl
                case x3 => first | rfl | with_unfolding_all rfl
                case x4 => first | rfl | with_unfolding_all rfl
                case x5 => first | rfl | with_unfolding_all rfl
                case x6 => first | rfl | with_unfolding_all rfl
              | some x =>
                have hxe : (x == e) = false := by
                  have hxx : sltP e x := drop_gt' ho2 ha x (mem_drop_of hy)
                  rw [beq_eq_false_iff_ne]; rintro rfl; exact slt_irr _ hxx
                refine sub_hit (i := j + 1) (vs := vs2) (ns := ns2) (News.isList (by assumption) (by k_mem)) hv2 (by first | rfl | ((try dsimp only); omega)) hy hz2 fun tx => ?_
                (repeat' ((fail_if_success (with_reducible show wpAny _ _ (compareOp _ _ _) _ _ _)); (first | (k_unfold; (try dsimp only)) | ((with_reducible show wpAny _ _ (execs (_ :: _) _) _ _ _); first | k_gentoks | ((with_reducible refine wpAny_execs_cons ?_); k_fold)) | ((first | ((with_reducible show wpAny _ _ (storeName _ _ _) _ _ _); k_dflt (refine' storeX_M ?Fz ?Nz ?_ ?az ?bz; (case Fz => k_asm); (case Nz => k_asm); (case az => rfl); (case bz => rfl); k_whole; intro _ _ _ _; (try k_sweep))) | fail "none")) | walk1 | dsimp only)))
                refine eq_str ?_
                rw [hxe]
                refine wpAny_truthy_bool ⟨rfl, ?_⟩
                (repeat' ((fail_if_success (with_reducible show wpAny _ _ (PySem.passOn _ _ _) _ _ _)); (first | (k_unfold; (try dsimp only)) | ((with_reducible show wpAny _ _ (execs (_ :: _) _) _ _ _); first | k_gentoks | ((with_reducible refine wpAny_execs_cons ?_); k_fold)) | ((first | ((with_reducible show wpAny _ _ (storeName _ _ _) _ _ _); k_dflt (refine' storeX_M ?Fz ?Nz ?_ ?az ?bz; (case Fz => k_asm); (case Nz => k_asm); (case az => rfl); (case bz => rfl); k_whole; intro _ _ _ _; (try k_sweep))) | fail "none")) | walk1 | dsimp only)))
                (with_reducible rename Fr _ _ _ _ => Fq)
                (with_reducible rename News _ _ _ _ => Nq)
                refine' passX (oT := oT7) (oe := oE) Fq Nq (by k_mem : (e6, oE) ∈ _) hdE rfl ?pu hdT2 (by rw [hT23]; exact hts) rfl ?_
                case pu => k_updF
                intro h9 F9 N9
                have hdT8 := Obj.data_mapFields hdT2 (·.setIfInBounds 3 (rawInt L'))
                clear Fq Nq
                refine againX N9 (by k_mem : (e6, oE) ∈ _) (by k_mem : (T6, _) ∈ _) hdE rfl hdT8 (field3 (by rw [hT23]; exact hts)) rfl ?_
                have ttN := heldX (rest := [(U, listOf vu.toArray nu), (M, listOf vm.toArray nm), (l1, listOf vs1.toArray n1), (l2, listOf vs2.toArray n2), (L, { oL with slots := sl6 })]) (s := ⟨h9, s.gens, s.drawn, 0, s.os⟩) F9 N9 (by k_mem : (e6, oE) ∈ _) (by k_mem : (T6, _) ∈ _) hcE hdE rfl hdT8 (field3 (by rw [hT23]; exact hts)) (by kd_inAll) ?hne9 ?hte9
                case hne9 =>
                  intro p hp
                  simp only [List.mem_cons, List.not_mem_nil, or_false] at hp
                  rcases hp with rfl | rfl | rfl | rfl | rfl <;> (refine neN ?_; dsimp only; omega)
                case hte9 => refine neN ?_; omega
                dsimp only at ttN
                have ttHH := ttN.held
                clear F9 N9 hdT8
                (repeat' ((fail_if_success (with_reducible show wpAny _ _ (execs (PySem.Stmt.Expr _ _ :: PySem.Stmt.Expr _ _ :: _) _) _ _ _)); (first | (k_unfold; (try dsimp only)) | ((with_reducible show wpAny _ _ (execs (_ :: _) _) _ _ _); first | k_gentoks | ((with_reducible refine wpAny_execs_cons ?_); k_fold)) | ((first | ((with_reducible show wpAny _ _ (storeName _ _ _) _ _ _); k_dflt (refine' storeX_M ?Fz ?Nz ?_ ?az ?bz; (case Fz => k_asm); (case Nz => k_asm); (case az => rfl); (case bz => rfl); k_whole; intro _ _ _ _; (try k_sweep))) | fail "none")) | walk1 | dsimp only)))
                (with_reducible rename Fr _ _ _ _ => Fh9)
                (with_reducible rename News _ _ _ _ => Nh9)
                refine' hnd _ (i + 1) (j + 1) _ _ _ _ _ _ _ _ _ _ _ _ (hinv2) ((Or.inl hx : ns1[i + 1]? = none ∨ ns2[j + 1]? = none)) hm hu Fh9 ?x1 ?x2 ?x3 ?x4 ?x5 ?x6 (news_sub Nh9 ?x7)
                case x7 => (try simp only [List.push_toArray, ← List.append_toArray]); kd_inAll
                case x1 => first | rfl | with_unfolding_all rfl
                case x2 => first | rfl | with_unfolding_all rfl
                case x3 => first | rfl | with_unfolding_all rfl
                case x4 => first | rfl | with_unfolding_all rfl
                case x5 => first | rfl | with_unfolding_all rfl
                case x6 => first | rfl | with_unfolding_all rfl
            | some x =>
              have hxe : (x == e) = false := by
                have hxx : sltP e x := drop_gt' ho1 he x (mem_drop_of hx)
                rw [beq_eq_false_iff_ne]; rintro rfl; exact slt_irr _ hxx
              refine sub_hit (i := i + 1) (vs := vs1) (ns := ns1) (News.isList (by assumption) (by k_mem)) hv1 (by first | rfl | ((try dsimp only); omega)) hx hz1 fun tx => ?_
              (repeat' ((fail_if_success (with_reducible show wpAny _ _ (compareOp _ _ _) _ _ _)); (first | (k_unfold; (try dsimp only)) | ((with_reducible show wpAny _ _ (execs (_ :: _) _) _ _ _); first | k_gentoks | ((with_reducible refine wpAny_execs_cons ?_); k_fold)) | ((first | ((with_reducible show wpAny _ _ (storeName _ _ _) _ _ _); k_dflt (refine' storeX_M ?Fz ?Nz ?_ ?az ?bz; (case Fz => k_asm); (case Nz => k_asm); (case az => rfl); (case bz => rfl); k_whole; intro _ _ _ _; (try k_sweep))) | fail "none")) | walk1 | dsimp only)))
              refine eq_str ?_
              rw [hxe]
              refine wpAny_truthy_bool ⟨rfl, ?_⟩
              (repeat' ((fail_if_success (with_reducible show wpAny _ _ (exec (PySem.Stmt.While _ _ _ _) _) _ _ _)); (first | (k_unfold; (try dsimp only)) | ((with_reducible show wpAny _ _ (execs (_ :: _) _) _ _ _); first | k_gentoks | ((with_reducible refine wpAny_execs_cons ?_); k_fold)) | ((first | ((with_reducible show wpAny _ _ (storeName _ _ _) _ _ _); k_dflt (refine' storeX_M ?Fz ?Nz ?_ ?az ?bz; (case Fz => k_asm); (case Nz => k_asm); (case az => rfl); (case bz => rfl); k_whole; intro _ _ _ _; (try k_sweep))) | fail "none")) | walk1 | dsimp only)))
              refine while_zero ?_
              (repeat' ((fail_if_success (with_reducible show wpAny _ _ (subscriptTail _ _ _ _) _ _ _)); (first | (k_unfold; (try dsimp only)) | ((with_reducible show wpAny _ _ (execs (_ :: _) _) _ _ _); first | k_gentoks | ((with_reducible refine wpAny_execs_cons ?_); k_fold)) | ((first | ((with_reducible show wpAny _ _ (storeName _ _ _) _ _ _); k_dflt (refine' storeX_M ?Fz ?Nz ?_ ?az ?bz; (case Fz => k_asm); (case Nz => k_asm); (case az => rfl); (case bz => rfl); k_whole; intro _ _ _ _; (try k_sweep))) | fail "none")) | walk1 | dsimp only)))
              cases hy : ns2[j + 1]? with
              | none =>
                (with_reducible rename Fr _ _ _ _ => Fq)
                (with_reducible rename News _ _ _ _ => Nq)
                refine sub_out (i := j + 1) (vs := vs2) (ns := ns2) rfl (News.isList Nq (by k_mem)) hv2 (by first | rfl | ((try dsimp only); omega)) hy (by omega) fun h9 tk9 e9 hx9 => ?_
                have kp9 := hx9.keeps
                have en9 := hx9.new
                obtain ⟨oE9, te9, he9, hc9, hd9⟩ := hx9.there
                clear hx9
                have F6b : Fr g L' h9 _ := Fr.keeps Fq kp9
                have N6b : News g L' h9 ((e9, oE9) :: [(U, listOf vu.toArray nu), (M, listOf vm.toArray nm), (l1, listOf vs1.toArray n1), (l2, listOf vs2.toArray n2)] ++ [(L, { oL with slots := sl })]) := news_more Fq Nq kp9 en9 he9
                have k6 := ne_of_fresh Nq en9
                have k6U : @Ne Nat U e9 := k6 (U, _) (by k_mem)
                have k6M : @Ne Nat M e9 := k6 (M, _) (by k_mem)
                have k6l1 : @Ne Nat l1 e9 := k6 (l1, _) (by k_mem)
                have k6l2 : @Ne Nat l2 e9 := k6 (l2, _) (by k_mem)
                have k6L : @Ne Nat L e9 := k6 (L, _) (by k_mem)
                clear Fq Nq k6
                try k_unmd
                repeat k_unfold
                try dsimp only
                unfold notedBy
                refine noteX (new := [(U, listOf vu.toArray nu), (M, listOf vm.toArray nm), (l1, listOf vs1.toArray n1), (l2, listOf vs2.toArray n2)]) rfl ?frs F6b N6b hd9 (by show 1 < 6; decide) rfl ?_ ?_ fun h10 T9 oT9 ts9 sl9 F10 N10 hdT9 h3T9 lT9 hTL9 => ?_
                case frs => exact ⟨tiF3.1, tiF3.2.1, tiF3.2.2.1, trivial⟩
                · intro p hp
                  simp only [List.mem_cons, List.not_mem_nil, or_false] at hp
                  rcases hp with rfl | rfl | rfl | rfl <;> (refine neN ?_; omega)
                · intro p hp
                  simp only [List.mem_cons, List.not_mem_nil, or_false] at hp
                  rcases hp with rfl | rfl | rfl | rfl <;> assumption
                have m9e9 : @LT.lt Nat _ e9 T9 := lT9 (e9, _) (.head _)
                have m9U : @LT.lt Nat _ U T9 := lT9 (U, _) (.tail _ (.head _))
                have m9M : @LT.lt Nat _ M T9 := lT9 (M, _) (.tail _ (.tail _ (.head _)))
                have m9l1 : @LT.lt Nat _ l1 T9 := lT9 (l1, _) (.tail _ (.tail _ (.tail _ (.head _))))
                have m9l2 : @LT.lt Nat _ l2 T9 := lT9 (l2, _) (.tail _ (.tail _ (.tail _ (.tail _ (.head _)))))
                have m9L : @LT.lt Nat _ L T9 := lT9 (L, _) (.tail _ (.tail _ (.tail _ (.tail _ (.tail _ (.head _))))))
                clear lT9 F6b N6b
                have hdE9 := Obj.data_mapFields hd9 (·.setIfInBounds 1 (Value.ref T9))
                have hcE9 : (Obj.mapFields (·.setIfInBounds 1 (Value.ref T9)) oE9).cls = .type "IndexError" := (Obj.cls_mapFields _ _).trans hc9
                generalize Obj.mapFields (·.setIfInBounds 1 (Value.ref T9)) oE9 = oF9 at N10 hdE9 hcE9
                clear he9 hc9 hd9
                have F10a : Fr g L' h10 _ := F10
                have N10a : News g L' h10 [(T9, oT9), (e9, oF9), (U, listOf vu.toArray nu), (M, listOf vm.toArray nm), (l1, listOf vs1.toArray n1), (l2, listOf vs2.toArray n2), (L, { oL with slots := sl9 })] := N10
                clear F10 N10
                have hts9 : 3 < ts9.size := (Array.getElem?_eq_some_iff.mp h3T9).1
                refine' backX (oT := oT9) F10a N10a (by k_mem : (e9, oF9) ∈ _) hdE9 rfl ?bu hdT9 hts9 rfl ?_
                case bu => k_updF
                intro h11 F11 N11
                have F11a : Fr g L' h11 _ := F11
                have N11a : News g L' h11 [(T9, _), (e9, oF9), (U, listOf vu.toArray nu), (M, listOf vm.toArray nm), (l1, listOf vs1.toArray n1), (l2, listOf vs2.toArray n2), (L, { oL with slots := sl9 })] := N11
                have hdT10 := Obj.data_mapFields hdT9 (·.setIfInBounds 3 (rawInt L'))
                clear F11 N11 F10a N10a h3T9
                refine againX N11a (by k_mem : (e9, oF9) ∈ _) (by k_mem : (T9, _) ∈ _) hdE9 rfl hdT10 (field3 hts9) rfl ?_
                have ttN := heldX (rest := [(U, listOf vu.toArray nu), (M, listOf vm.toArray nm), (l1, listOf vs1.toArray n1), (l2, listOf vs2.toArray n2), (L, { oL with slots := sl9 })]) (s := ⟨h11, s.gens, s.drawn, 0, s.os⟩) F11a N11a (by k_mem : (e9, oF9) ∈ _) (by k_mem : (T9, _) ∈ _) hcE9 hdE9 rfl hdT10 (field3 hts9) (by kd_inAll) ?hne9 ?hte9
                case hne9 =>
                  intro p hp
                  simp only [List.mem_cons, List.not_mem_nil, or_false] at hp
                  rcases hp with rfl | rfl | rfl | rfl | rfl <;> (refine neN ?_; dsimp only; omega)
                case hte9 => refine neN ?_; omega
                dsimp only at ttN
                have ttHH := ttN.held
                clear F11a N11a hdT10
                (repeat' ((fail_if_success (with_reducible show wpAny _ _ (execs (PySem.Stmt.Expr _ _ :: PySem.Stmt.Expr _ _ :: _) _) _ _ _)); (first | (k_unfold; (try dsimp only)) | ((with_reducible show wpAny _ _ (execs (_ :: _) _) _ _ _); first | k_gentoks | ((with_reducible refine wpAny_execs_cons ?_); k_fold)) | ((first | ((with_reducible show wpAny _ _ (storeName _ _ _) _ _ _); k_dflt (refine' storeX_M ?Fz ?Nz ?_ ?az ?bz; (case Fz => k_asm); (case Nz => k_asm); (case az => rfl); (case bz => rfl); k_whole; intro _ _ _ _; (try k_sweep))) | fail "none")) | walk1 | dsimp only)))
                (with_reducible rename Fr _ _ _ _ => Fh9)
                (with_reducible rename News _ _ _ _ => Nh9)
                refine' hnd _ (i + 1) (j + 1) _ _ _ _ _ _ _ _ _ _ _ _ (hinv2) ((Or.inr hy : ns1[i + 1]? = none ∨ ns2[j + 1]? = none)) hm hu Fh9 ?x1 ?x2 ?x3 ?x4 ?x5 ?x6 (news_sub Nh9 ?x7)
                case x7 => (try simp only [List.push_toArray, ← List.append_toArray]); kd_inAll
                case x1 => first | rfl | with_unfolding_all rfl
                case x2 => first | rfl | with_unfolding_all rfl
                case x3 => first | rfl | with_unfolding_all rfl
                case x4 => first | rfl | with_unfolding_all rfl
                case x5 => first | rfl | with_unfolding_all rfl
                case x6 => first | rfl | with_unfolding_all rfl
              | some x2 =>
                have hxe2 : (x2 == e) = false := by
                  have hxx : sltP e x2 := drop_gt' ho2 ha x2 (mem_drop_of hy)
                  rw [beq_eq_false_iff_ne]; rintro rfl; exact slt_irr _ hxx
                refine sub_hit (i := j + 1) (vs := vs2) (ns := ns2) (News.isList (by assumption) (by k_mem)) hv2 (by first | rfl | ((try dsimp only); omega)) hy hz2 fun tx2 => ?_
                (repeat' ((fail_if_success (with_reducible show wpAny _ _ (compareOp _ _ _) _ _ _)); (first | (k_unfold; (try dsimp only)) | ((with_reducible show wpAny _ _ (execs (_ :: _) _) _ _ _); first | k_gentoks | ((with_reducible refine wpAny_execs_cons ?_); k_fold)) | ((first | ((with_reducible show wpAny _ _ (storeName _ _ _) _ _ _); k_dflt (refine' storeX_M ?Fz ?Nz ?_ ?az ?bz; (case Fz => k_asm); (case Nz => k_asm); (case az => rfl); (case bz => rfl); k_whole; intro _ _ _ _; (try k_sweep))) | fail "none")) | walk1 | dsimp only)))
                refine eq_str ?_
                rw [hxe2]
                refine wpAny_truthy_bool ⟨rfl, ?_⟩
                (repeat' (first | (k_unfold; (try dsimp only)) | (k_end; wrow_close) | ((with_reducible show wpAny _ _ (execs (_ :: _) _) _ _ _); first | k_gentoks | ((with_reducible refine wpAny_execs_cons ?_); k_fold)) | ((first | ((with_reducible show wpAny _ _ (storeName _ _ _) _ _ _); k_dflt (refine' storeX_M ?Fz ?Nz ?_ ?az ?bz; (case Fz => k_asm); (case Nz => k_asm); (case az => rfl); (case bz => rfl); k_whole; intro _ _ _ _; (try k_sweep))) | fail "none")) | walk1 | dsimp only | (leave1; walk_say "STEP leave1"; try dsimp only) | fail "no step"))
                refine' ksw_end ⟨i + 1, j + 1, ?tnew3, ?tnew4, vm, nm, vu, nu, sl⟩ (by assumption) (by assumption) ?eN trivial ?eK ?eR ⟨_, _, hinv2, hm, hu⟩ ?eM
                case eK =>
                  intro p hp
                  simp only [List.mem_cons, List.not_mem_nil, or_false] at hp
                  rcases hp with rfl | rfl
                  · exact rfl
                  · exact rfl
                case eN =>
                  dsimp only
                  (try rw [← List.push_toArray])
                  exact fun p hp => hp
                case eR =>
                  intro z hz3 hz4
                  have z1 : z ≠ Str.ofString "j" := hz3 (Str.ofString "j", _) (.head _)
                  have z2 : z ≠ Str.ofString "i" := hz3 (Str.ofString "i", _) (.tail _ (.head _))
                  have z3 : z ≠ Str.ofString "e" := by rintro rfl; revert hz4; decide +kernel
                  have z4 : z ≠ Str.ofString "a" := by rintro rfl; revert hz4; decide +kernel
                  simp +zetaDelta only [kstB, if_neg z1, if_neg z2, if_neg z3, if_neg z4, hz4, Bool.false_eq_true, if_false]
                case eM =>
                  dsimp only
                  omega
  case hhnd =>
    intro e6 i j ti tj vm vu nm nu sl mis unx m' h6 tk6 hI hS hm hu F4 m1 m2 m3 m4 m5 m6 N4
    clear N3 F3
    have hi1 : i ≤ ns1.length := hI.hi
    have hj1 : j ≤ ns2.length := hI.hj
    have hmz : vm.length ≤ 1000 := by rw [hm.length, hI.mis]; exact Nat.le_trans (List.length_filter_le _ _) (Nat.le_trans (by rw [List.length_take]; omega) hz1)
    have huz : vu.length ≤ 1000 := by rw [hu.length, hI.unx]; exact Nat.le_trans (List.length_filter_le _ _) (Nat.le_trans (by rw [List.length_take]; omega) hz2)
    (repeat' ((fail_if_success (with_reducible show wpAny _ _ (subscriptTail _ _ _ _) _ _ _)); (first | (k_unfold; (try dsimp only)) | ((with_reducible show wpAny _ _ (execs (_ :: _) _) _ _ _); first | k_gentoks | ((with_reducible refine wpAny_execs_cons ?_); k_fold)) | (((with_reducible show wpAny _ _ (eval (PySem.Expr.Name _ _) _) _ _ _); k_dflt (refine' nameX_L ?Fz ?vz ?_ ?az ?bz ?cz; (case Fz => k_asm); (case vz => with_reducible assumption); (case az => rfl); (case bz => rfl); (case cz => decide)))) | ((first | ((with_reducible show wpAny _ _ (storeName _ _ _) _ _ _); k_dflt (refine' storeX_M ?Fz ?Nz ?_ ?az ?bz; (case Fz => k_asm); (case Nz => k_asm); (case az => rfl); (case bz => rfl); k_whole; intro _ _ _ _; (try k_sweep))) | fail "none")) | walk1 | dsimp only)))
    refine' slice_from (i := i) (vs := vs1) (by assumption) (by assumption) (News.isList (by assumption) (by k_mem)) (by first | rfl | ((try dsimp only); omega)) (by omega) ?_ (by with_unfolding_all rfl) (by intro _; with_unfolding_all rfl)
    intro D1 h7 F5 N5 lD1
    k_lt lD1
    (repeat' ((fail_if_success (with_reducible show wpAny _ _ (call (Value.builtin "list.extend") _) _ _ _)); (first | (k_unfold; (try dsimp only)) | ((with_reducible show wpAny _ _ (execs (_ :: _) _) _ _ _); first | k_gentoks | ((with_reducible refine wpAny_execs_cons ?_); k_fold)) | (((with_reducible show wpAny _ _ (eval (PySem.Expr.Name _ _) _) _ _ _); k_dflt (refine' nameX_L ?Fz ?vz ?_ ?az ?bz ?cz; (case Fz => k_asm); (case vz => with_reducible assumption); (case az => rfl); (case bz => rfl); (case cz => decide)))) | ((first | ((with_reducible show wpAny _ _ (storeName _ _ _) _ _ _); k_dflt (refine' storeX_M ?Fz ?Nz ?_ ?az ?bz; (case Fz => k_asm); (case Nz => k_asm); (case az => rfl); (case bz => rfl); k_whole; intro _ _ _ _; (try k_sweep))) | fail "none")) | walk1 | dsimp only)))
    refine' extend_any (by assumption) (by assumption) (by k_mem) ?eu ?ez ?ez2 ?_
    case eu => k_updF
    case ez => (try simp only [List.size_toArray, List.length_drop, Array.size_append, Array.size_push]); omega
    case ez2 => (try simp only [List.size_toArray, List.length_drop, Array.size_append, Array.size_push]); omega
    intro h8 nm8 F6 N6
    (repeat' ((fail_if_success (with_reducible show wpAny _ _ (subscriptTail _ _ _ _) _ _ _)); (first | (k_unfold; (try dsimp only)) | ((with_reducible show wpAny _ _ (execs (_ :: _) _) _ _ _); first | k_gentoks | ((with_reducible refine wpAny_execs_cons ?_); k_fold)) | (((with_reducible show wpAny _ _ (eval (PySem.Expr.Name _ _) _) _ _ _); k_dflt (refine' nameX_L ?Fz ?vz ?_ ?az ?bz ?cz; (case Fz => k_asm); (case vz => with_reducible assumption); (case az => rfl); (case bz => rfl); (case cz => decide)))) | ((first | ((with_reducible show wpAny _ _ (storeName _ _ _) _ _ _); k_dflt (refine' storeX_M ?Fz ?Nz ?_ ?az ?bz; (case Fz => k_asm); (case Nz => k_asm); (case az => rfl); (case bz => rfl); k_whole; intro _ _ _ _; (try k_sweep))) | fail "none")) | walk1 | dsimp only)))
    refine' slice_from (i := j) (vs := vs2) (by assumption) (by assumption) (News.isList (by assumption) (by k_mem)) (by first | rfl | ((try dsimp only); omega)) (by omega) ?_ (by with_unfolding_all rfl) (by intro _; with_unfolding_all rfl)
    intro D2 h9 F7 N7 lD2
    k_lt lD2
    (repeat' ((fail_if_success (with_reducible show wpAny _ _ (call (Value.builtin "list.extend") _) _ _ _)); (first | (k_unfold; (try dsimp only)) | ((with_reducible show wpAny _ _ (execs (_ :: _) _) _ _ _); first | k_gentoks | ((with_reducible refine wpAny_execs_cons ?_); k_fold)) | (((with_reducible show wpAny _ _ (eval (PySem.Expr.Name _ _) _) _ _ _); k_dflt (refine' nameX_L ?Fz ?vz ?_ ?az ?bz ?cz; (case Fz => k_asm); (case vz => with_reducible assumption); (case az => rfl); (case bz => rfl); (case cz => decide)))) | ((first | ((with_reducible show wpAny _ _ (storeName _ _ _) _ _ _); k_dflt (refine' storeX_M ?Fz ?Nz ?_ ?az ?bz; (case Fz => k_asm); (case Nz => k_asm); (case az => rfl); (case bz => rfl); k_whole; intro _ _ _ _; (try k_sweep))) | fail "none")) | walk1 | dsimp only)))
    refine' extend_any (by assumption) (by assumption) (by k_mem) ?eu ?ez ?ez2 ?_
    case eu => k_updF
    case ez => (try simp only [List.size_toArray, List.length_drop, Array.size_append, Array.size_push]); omega
    case ez2 => (try simp only [List.size_toArray, List.length_drop, Array.size_append, Array.size_push]); omega
    intro h10 nu8 F8 N8
    (repeat' (first | (k_unfold; (try dsimp only)) | (k_end; wrow_close) | ((with_reducible show wpAny _ _ (execs (_ :: _) _) _ _ _); first | k_gentoks | ((with_reducible refine wpAny_execs_cons ?_); k_fold)) | (((with_reducible show wpAny _ _ (eval (PySem.Expr.Name _ _) _) _ _ _); k_dflt (refine' nameX_L ?Fz ?vz ?_ ?az ?bz ?cz; (case Fz => k_asm); (case vz => with_reducible assumption); (case az => rfl); (case bz => rfl); (case cz => decide)))) | ((first | ((with_reducible show wpAny _ _ (storeName _ _ _) _ _ _); k_dflt (refine' storeX_M ?Fz ?Nz ?_ ?az ?bz; (case Fz => k_asm); (case Nz => k_asm); (case az => rfl); (case bz => rfl); k_whole; intro _ _ _ _; (try k_sweep))) | fail "none")) | walk1 | dsimp only | (leave1; walk_say "STEP leave1"; try dsimp only) | fail "no step"))
    rename_i T' h11 F9 N9 l4
    have e1 := hI.stop hS slt_irr
    have e2 := hI.stop2 hS slt_irr
    obtain ⟨l4a, l4b, l4c, l4d, l4e, l4f, l4g⟩ := l4
    refine h T' M U (vm ++ vs1.drop i) nm8 (vu ++ vs2.drop j) nu8 h11 _ (fr_back ⟨tc1, tc2, tc3⟩ kp F9 N9 (by k_mem)) (kx_back GS F9) (fresh_back GS N9 (by k_mem : (T', _) ∈ _) ?_) (fresh_back GS N9 (by k_mem : (M, _) ∈ _) ?_) (fresh_back GS N9 (by k_mem : (U, _) ∈ _) ?_) ⟨?_, ?_, ?_⟩ (N9 (T', _) (by k_mem)).1 (by rw [← List.append_toArray]; exact (N9 (M, listOf (vm.toArray ++ (vs1.drop i).toArray) nm8) (by k_mem)).1) (e1 ▸ StrsAre.append' hm (sDrop hv1 i)) (by rw [← List.append_toArray]; exact (N9 (U, listOf (vu.toArray ++ (vs2.drop j).toArray) nu8) (by k_mem)).1) (e2 ▸ StrsAre.append' hu (sDrop hv2 j))
    iterate 3 (intro hm9; simp only [List.mem_cons, List.map_cons, List.map_nil, List.not_mem_nil, or_false] at hm9; rcases hm9 with e9 | e9 | e9 <;> (have e8 : @Eq Nat _ _ := e9; omega))
    all_goals (refine neN ?_; omega)
end
section
theorem size_down (n : Nat) : Builtin.Range.rangeSize ((n : Int) - 1) (-1) (-1) = (n : Int) := by
  unfold Builtin.Range.rangeSize
  rw [if_neg (by decide)]
  by_cases h : n = 0
  · subst h; decide
  · rw [if_pos (by omega)]
    simp
theorem small_down {n : Nat} (h : n ≤ 1000) : Builtin.Range.small ((n : Int) - 1) (-1) (-1) = true := by
  unfold Builtin.Range.small
  rw [size_down]
  simp only [Builtin.Range.rangeFitsLong, Bool.and_eq_true, Bool.or_eq_true, decide_eq_true_eq, beq_iff_eq, show ¬ ((-1 : Int) > 0) by decide, if_false]
  refine ⟨⟨⟨⟨?_, ?_⟩, ?_⟩, ?_⟩, ?_⟩ <;> first | omega | (right; omega)
theorem countIn_strs {k : Str} : ∀ ns : List Str, countIn (.str k) (ns.map PyData.str) = (ns.count k : Int) := cnt_strs k
theorem rev_take_count {ns : List Str} {i : Nat} (hi : i < ns.length) (y : Str) : (ns.reverse.take i).count y = (ns.drop (ns.length - 1 - i + 1)).count y := by
  rw [List.take_reverse, List.count_reverse]
  congr 2
  omega
theorem left_step {f : Str → Nat} {l : List Str} {i : Nat} {y : Str} (h : l[i]? = some y) : leftF f (l.take (i + 1)) = leftF f (l.take i) ++ (if f y ≤ (l.take i).count y then [y] else []) := by
  rw [List.take_succ, h]
  exact leftF_snoc _ _ _
theorem left_len {f : Str → Nat} {l : List Str} {i : Nat} {vs : List Value} (hz : l.length ≤ 1000) (h : StrsAre vs (leftF f (l.take i))) : vs.length ≤ 1000 := by
  rw [h.length]
  have h1 := leftF_length (l.take i) f
  have h2 := List.length_take_le i l
  have h3 : (l.take i).length ≤ l.length := by rw [List.length_take]; exact Nat.min_le_right _ _
  omega
theorem apart_spec {w : World} {A : Around} {s : Shared} {Q E : Value → Shared → Prop} {l1 l2 : Addr} {vs1 vs2 : List Value} {ns1 ns2 : List Str} {n1 n2 : Nat} (hc : CxN w A s.heap 2 [(l1, listOf vs1.toArray n1), (l2, listOf vs2.toArray n2)]) (hne : @Ne Nat l1 l2)
    (hv1 : StrsAre vs1 ns1) (hv2 : StrsAre vs2 ns2) (hz1 : ns1.length ≤ 1000) (hz2 : ns2.length ≤ 1000)
    (h : ∀ T M U vM nM vU nU h' tk', Kx [l1, l2] s.heap h' → h'.get? l1 = some (listOf vs1.toArray n1) → h'.get? l2 = some (listOf vs2.toArray n2) → s.heap.get? T = none → s.heap.get? M = none → s.heap.get? U = none → h'.get? T = some { cls := .type "tuple", data := .seq #[.ref M, .ref U] } →
      h'.get? M = some (listOf (List.toArray vM) nM) → StrsAre vM (leftF (fun y => ns2.count y) ns1.reverse) → h'.get? U = some (listOf (List.toArray vU) nU) → StrsAre vU (leftF (fun y => ns1.count y) ns2) → Q (.ref T) { s with heap := h', toks := tk' }) :
    wpAny (model prog w) A (call (.ref 833) [.ref l1, .ref l2]) Q E s := by
  obtain ⟨dp, un, gd, cn, cs, L, a, ccd, cl, outer, A₀, base, h₀, m, mean, mg, mb, rfl, B, F, X, T, hk, h1, h2, N⟩ := hc
  refine wpAny_call ?_
  k_dflt (refine' code_defG ?k1 ?k2 ?k3 ?k4 ?k5 ?kA ?kF ?kK ?k6 ?k7 ?k8 ?k9 ?kB ?_ ?c2 ?c3 ?c4 ?c5; (case kA => exact rfl); (case kF => exact rfl); (case kK => assumption); (case k1 => k_asm); (case k2 => k_asm); (case k3 => k_asm); (case k4 => k_asm); (case k5 => k_asm); (case k6 => k_is); (case k7 => k_is); (case k8 => exact room (by assumption)); (case k9 => first | exact BindsTo.of_eq rfl | exact binds_K (by k_in) rfl (by k_is) rfl rfl rfl); (case c5 => decide); (case kB => exact locs rfl); (case c2 => exact rfl); (case c3 => exact rfl); (case c4 => exact rfl); k_whole; intro _ _ _ _ _ _ _ _ _ _; (try dsimp only))
  (try k_fold)
  (repeat' ((fail_if_success (with_reducible show wpAny _ _ (exec (PySem.Stmt.For _ _ _ _ _) _) _ _ _)); (first | (k_unfold; (try dsimp only)) | ((with_reducible show wpAny _ _ (execs (_ :: _) _) _ _ _); first | k_gentoks | ((with_reducible refine wpAny_execs_cons ?_); k_fold)) | ((first | ((with_reducible show wpAny _ _ (storeName _ _ _) _ _ _); k_dflt (refine' storeX_M ?Fz ?Nz ?_ ?az ?bz; (case Fz => k_asm); (case Nz => k_asm); (case az => rfl); (case bz => rfl); k_whole; intro _ _ _ _; (try k_sweep))) | fail "none")) | walk1 | dsimp only)))
  refine wpAny_For ?_
  (repeat' ((fail_if_success (with_reducible show wpAny _ _ (pyIter _) _ _ _)); (first | (k_unfold; (try dsimp only)) | ((with_reducible show wpAny _ _ (execs (_ :: _) _) _ _ _); first | k_gentoks | ((with_reducible refine wpAny_execs_cons ?_); k_fold)) | ((first | ((with_reducible show wpAny _ _ (storeName _ _ _) _ _ _); k_dflt (refine' storeX_M ?Fz ?Nz ?_ ?az ?bz; (case Fz => k_asm); (case Nz => k_asm); (case az => rfl); (case bz => rfl); k_whole; intro _ _ _ _; (try k_sweep))) | fail "none")) | walk1 | dsimp only)))
  (with_reducible rename IsRange _ _ _ _ _ _ _ _ => hr)
  rename_i hv2 g L' h1 FG BB XX TT GS _ _ tk0 _ _ M h2 lM h3 _ F0 N0 h4 tk3 t1 u1 w1 F1 N1 kp1
  obtain ⟨lM1, lM2⟩ := lM
  have F1a : Fr g L' h4 _ := F1
  have N1a : News g L' h4 ([(M, listOf #[] 0)] ++ [(l1, listOf vs1.toArray n1), (l2, listOf vs2.toArray n2)]) := N1
  clear F0 N0 F1 N1
  have hlen1 : vs1.length = ns1.length := hv1.length
  refine loopSR (n := ns1.length) (a := (ns1.length : Int) - 1) (b := -1) (c := -1) (σ := List Value × Nat) (fun c => [(M, listOf c.1.toArray c.2)]) [(l1, listOf vs1.toArray n1), (l2, listOf vs2.toArray n2)] [Str.ofString "place"] [M]
    (fun i c => StrsAre c.1 (leftF (fun y => ns2.count y) (ns1.reverse.take i))) ([], 0) rfl hr (small_down hz1) (size_down _) F1a N1a (fun _ => rfl) .nil ?turn ?done
  case turn =>
    rintro i z tz ⟨vm, nm⟩ u h5 tk5 I oI hi hz hJ hI1 hI2 F2 N2
    dsimp only at hJ
    have F3 : Fr g L' h5 _ := F2
    have N3 : News g L' h5 [(I, oI), (M, listOf vm.toArray nm), (l1, listOf vs1.toArray n1), (l2, listOf vs2.toArray n2)] := N2
    have hIM : @LT.lt Nat _ M I := hI1 _ (.head _)
    have hI11 : @LT.lt Nat _ l1 I := hI2 _ (.head _)
    have hI12 : @LT.lt Nat _ l2 I := hI2 _ (.tail _ (.head _))
    clear F2 N2 hI1 hI2 F1a N1a
    have hp0 : 0 ≤ z := by omega
    have hp1 : z.toNat < ns1.length := by omega
    obtain ⟨y, hy⟩ : ∃ y, ns1[z.toNat]? = some y := ⟨_, List.getElem?_eq_getElem hp1⟩
    have hzi : z.toNat = ns1.length - 1 - i := by omega
    have hyr : ns1.reverse[i]? = some y := by rw [List.getElem?_reverse hi, ← hzi]; exact hy
    have hcnt : (ns1.reverse.take i).count y = (ns1.drop (z.toNat + 1)).count y := by rw [hzi]; exact rev_take_count hi y
    have hvm := left_len (by rw [List.length_reverse]; exact hz1) hJ
    have hJ2 : StrsAre vm (leftF (fun y => ns2.count y) (ns1.reverse.take i)) := id hJ
    refine wpAny_assign_Name ?_
    k_unmd
    (try k_fold)
    (repeat' ((fail_if_success (with_reducible show wpAny _ _ (subscriptTail _ _ _ _) _ _ _)); (first | (k_unfold; (try dsimp only)) | ((with_reducible show wpAny _ _ (execs (_ :: _) _) _ _ _); first | k_gentoks | ((with_reducible refine wpAny_execs_cons ?_); k_fold)) | ((first | ((with_reducible show wpAny _ _ (storeName _ _ _) _ _ _); k_dflt (refine' storeX_M ?Fz ?Nz ?_ ?az ?bz; (case Fz => k_asm); (case Nz => k_asm); (case az => rfl); (case bz => rfl); k_whole; intro _ _ _ _; (try k_sweep))) | fail "none")) | walk1 | dsimp only)))
    refine' slice_from (i := z.toNat + 1) (vs := vs1) (by assumption) (by assumption) (News.isList (by assumption) (by k_mem)) (by omega) (by omega) ?_ (by with_unfolding_all rfl) (by intro _; with_unfolding_all rfl)
    intro D1 h7 F5 N5 lD1
    k_lt lD1
    (repeat' ((fail_if_success (with_reducible show wpAny _ _ (subscriptTail _ _ _ _) _ _ _)); (first | (k_unfold; (try dsimp only)) | ((with_reducible show wpAny _ _ (execs (_ :: _) _) _ _ _); first | k_gentoks | ((with_reducible refine wpAny_execs_cons ?_); k_fold)) | ((first | ((with_reducible show wpAny _ _ (storeName _ _ _) _ _ _); k_dflt (refine' storeX_M ?Fz ?Nz ?_ ?az ?bz; (case Fz => k_asm); (case Nz => k_asm); (case az => rfl); (case bz => rfl); k_whole; intro _ _ _ _; (try k_sweep))) | fail "none")) | walk1 | dsimp only)))
    refine sub_hit (i := z.toNat) (vs := vs1) (ns := ns1) (News.isList (by assumption) (by k_mem)) hv1 (by omega) hy hz1 fun te => ?_
    (repeat' ((fail_if_success (with_reducible show wpAny _ _ (call (Value.builtin "list.count") _) _ _ _)); (first | (k_unfold; (try dsimp only)) | ((with_reducible show wpAny _ _ (execs (_ :: _) _) _ _ _); first | k_gentoks | ((with_reducible refine wpAny_execs_cons ?_); k_fold)) | ((first | ((with_reducible show wpAny _ _ (storeName _ _ _) _ _ _); k_dflt (refine' storeX_M ?Fz ?Nz ?_ ?az ?bz; (case Fz => k_asm); (case Nz => k_asm); (case az => rfl); (case bz => rfl); k_whole; intro _ _ _ _; (try k_sweep))) | fail "none")) | walk1 | dsimp only)))
    refine count_list_strs (News.isList (by assumption) (by k_mem)) (sDrop hv1 (z.toNat + 1)) ?_
    (repeat' ((fail_if_success (with_reducible show wpAny _ _ (subscriptTail _ _ _ _) _ _ _)); (first | (k_unfold; (try dsimp only)) | ((with_reducible show wpAny _ _ (execs (_ :: _) _) _ _ _); first | k_gentoks | ((with_reducible refine wpAny_execs_cons ?_); k_fold)) | ((first | ((with_reducible show wpAny _ _ (storeName _ _ _) _ _ _); k_dflt (refine' storeX_M ?Fz ?Nz ?_ ?az ?bz; (case Fz => k_asm); (case Nz => k_asm); (case az => rfl); (case bz => rfl); k_whole; intro _ _ _ _; (try k_sweep))) | fail "none")) | walk1 | dsimp only)))
    refine sub_hit (i := z.toNat) (vs := vs1) (ns := ns1) (News.isList (by assumption) (by k_mem)) hv1 (by omega) hy hz1 fun te2 => ?_
    (repeat' ((fail_if_success (with_reducible show wpAny _ _ (call (Value.builtin "list.count") _) _ _ _)); (first | (k_unfold; (try dsimp only)) | ((with_reducible show wpAny _ _ (execs (_ :: _) _) _ _ _); first | k_gentoks | ((with_reducible refine wpAny_execs_cons ?_); k_fold)) | ((first | ((with_reducible show wpAny _ _ (storeName _ _ _) _ _ _); k_dflt (refine' storeX_M ?Fz ?Nz ?_ ?az ?bz; (case Fz => k_asm); (case Nz => k_asm); (case az => rfl); (case bz => rfl); k_whole; intro _ _ _ _; (try k_sweep))) | fail "none")) | walk1 | dsimp only)))
    refine count_list_strs (News.isList (by assumption) (by k_mem)) hv2 ?_
    rw [cnt_strs, cnt_strs]
    (repeat' (first | (k_unfold; (try dsimp only)) | (k_end; wrow_close) | ((with_reducible show wpAny _ _ (execs (_ :: _) _) _ _ _); first | k_gentoks | ((with_reducible refine wpAny_execs_cons ?_); k_fold)) | ((first | ((with_reducible show wpAny _ _ (storeName _ _ _) _ _ _); k_dflt (refine' storeX_M ?Fz ?Nz ?_ ?az ?bz; (case Fz => k_asm); (case Nz => k_asm); (case az => rfl); (case bz => rfl); k_whole; intro _ _ _ _; (try k_sweep))) | fail "none")) | walk1 | dsimp only | (leave1; walk_say "STEP leave1"; try dsimp only) | fail "no step"))
    · (with_reducible rename Fr _ _ _ _ => F8)
      (with_reducible rename News _ _ _ _ => N8)
      have hyd : ns1.getD z.toNat Str.empty = y := by rw [List.getD_eq_getElem?_getD, hy]; rfl
      have hle : ns2.count y ≤ (ns1.drop (z.toNat + 1)).count y := by omega
      rw [hyd, List.push_toArray] at N8
      refine ⟨(vm ++ [.str y _], nm + 1), _, _, _, rfl, ?_, F8, news_sub N8 (by kd_inAll), ?_⟩
      · intro q hq
        have : q ≠ Str.ofString "place" := by rintro rfl; revert hq; decide +kernel
        simp +zetaDelta only [if_neg this, hq, Bool.false_eq_true, if_false]
      · dsimp only
        rw [left_step hyr, if_pos (by rw [hcnt]; exact hle)]
        exact StrsAre.append' (by assumption : StrsAre vm (leftF (fun y => ns2.count y) (ns1.reverse.take i))) (.cons _ _ .nil)
    · (with_reducible rename Fr _ _ _ _ => F8)
      (with_reducible rename News _ _ _ _ => N8)
      have hle : ¬ ns2.count y ≤ (ns1.drop (z.toNat + 1)).count y := by omega
      refine ⟨(vm, nm), _, _, _, rfl, ?_, F8, news_sub N8 (by kd_inAll), ?_⟩
      · intro q hq
        have : q ≠ Str.ofString "place" := by rintro rfl; revert hq; decide +kernel
        simp +zetaDelta only [if_neg this, hq, Bool.false_eq_true, if_false]
      · dsimp only
        rw [left_step hyr, if_neg (by rw [hcnt]; exact hle), List.append_nil]
        assumption
  case done =>
    rintro ⟨vm, nm⟩ u h5 tk5 hJ F2 N2
    dsimp only at hJ
    have F3 : Fr g L' h5 _ := F2
    have N3 : News g L' h5 [(M, listOf vm.toArray nm), (l1, listOf vs1.toArray n1), (l2, listOf vs2.toArray n2)] := N2
    clear F2 N2 F1a N1a
    dsimp only
    (repeat' ((fail_if_success (with_reducible show wpAny _ _ (exec (PySem.Stmt.For _ _ _ _ _) _) _ _ _)); (first | (k_unfold; (try dsimp only)) | ((with_reducible show wpAny _ _ (execs (_ :: _) _) _ _ _); first | k_gentoks | ((with_reducible refine wpAny_execs_cons ?_); k_fold)) | ((first | ((with_reducible show wpAny _ _ (storeName _ _ _) _ _ _); k_dflt (refine' storeX_M ?Fz ?Nz ?_ ?az ?bz; (case Fz => k_asm); (case Nz => k_asm); (case az => rfl); (case bz => rfl); k_whole; intro _ _ _ _; (try k_sweep))) | fail "none")) | walk1 | dsimp only)))
    refine wpAny_For ?_
    (repeat' ((fail_if_success (with_reducible show wpAny _ _ (pyIter _) _ _ _)); (first | (k_unfold; (try dsimp only)) | ((with_reducible show wpAny _ _ (execs (_ :: _) _) _ _ _); first | k_gentoks | ((with_reducible refine wpAny_execs_cons ?_); k_fold)) | ((first | ((with_reducible show wpAny _ _ (storeName _ _ _) _ _ _); k_dflt (refine' storeX_M ?Fz ?Nz ?_ ?az ?bz; (case Fz => k_asm); (case Nz => k_asm); (case az => rfl); (case bz => rfl); k_whole; intro _ _ _ _; (try k_sweep))) | fail "none")) | walk1 | dsimp only)))
    (with_reducible rename IsRange _ _ _ _ _ _ _ _ => hr3)
    (with_reducible rename StrsAre vm _ => hJm)
    rename_i U h6 lU h7 _ F5 N5 h8 tk8 t8 u8 w8 F6 N6 kp8
    obtain ⟨lU1, lU2, lU3⟩ := lU
    have F7 : Fr g L' h8 _ := F6
    have N7 : News g L' h8 ([(U, listOf #[] 0)] ++ [(M, listOf vm.toArray nm), (l1, listOf vs1.toArray n1), (l2, listOf vs2.toArray n2)]) := N6
    clear F6 N6
    have hJm2 : StrsAre vm (leftF (fun y => ns2.count y) ns1.reverse) := by
      rw [List.take_of_length_le (by rw [List.length_reverse]; exact Nat.le_refl _)] at hJm; exact hJm
    clear hJm
    refine loopSR (n := ns2.length) (a := 0) (b := (ns2.length : Int)) (c := 1) (σ := List Value × Nat) (fun c => [(U, listOf c.1.toArray c.2)]) [(M, listOf vm.toArray nm), (l1, listOf vs1.toArray n1), (l2, listOf vs2.toArray n2)] [Str.ofString "place"] [U]
      (fun i c => StrsAre c.1 (leftF (fun y => ns1.count y) (ns2.take i))) ([], 0) rfl hr3 (small_one (by omega) (by omega) (by omega) (by omega)) (by rw [rangeSize_nat]; omega) F7 N7 (fun _ => rfl) .nil ?turn2 ?done2
    case turn2 =>
      rintro i z tz ⟨vu, nu⟩ u h9 tk9 I oI hi hz hJ hI1 hI2 F2 N2
      dsimp only at hJ
      have F3 : Fr g L' h9 _ := F2
      have N3 : News g L' h9 [(I, oI), (U, listOf vu.toArray nu), (M, listOf vm.toArray nm), (l1, listOf vs1.toArray n1), (l2, listOf vs2.toArray n2)] := N2
      have hIU : @LT.lt Nat _ U I := hI1 _ (.head _)
      have hIM : @LT.lt Nat _ M I := hI2 _ (.head _)
      have hI11 : @LT.lt Nat _ l1 I := hI2 _ (.tail _ (.head _))
      have hI12 : @LT.lt Nat _ l2 I := hI2 _ (.tail _ (.tail _ (.head _)))
      clear F2 N2 hI1 hI2 F7 N7
      have hzi : z.toNat = i := by omega
      obtain ⟨y, hy⟩ : ∃ y, ns2[i]? = some y := ⟨_, List.getElem?_eq_getElem hi⟩
      have hvu := left_len hz2 hJ
      have hlen2 : vs2.length = ns2.length := by first | exact hv2.length | exact (by assumption : StrsAre vs2 ns2).length
      refine wpAny_assign_Name ?_
      k_unmd
      (try k_fold)
      (repeat' ((fail_if_success (with_reducible show wpAny _ _ (subscriptTail _ _ _ _) _ _ _)); (first | (k_unfold; (try dsimp only)) | ((with_reducible show wpAny _ _ (execs (_ :: _) _) _ _ _); first | k_gentoks | ((with_reducible refine wpAny_execs_cons ?_); k_fold)) | ((first | ((with_reducible show wpAny _ _ (storeName _ _ _) _ _ _); k_dflt (refine' storeX_M ?Fz ?Nz ?_ ?az ?bz; (case Fz => k_asm); (case Nz => k_asm); (case az => rfl); (case bz => rfl); k_whole; intro _ _ _ _; (try k_sweep))) | fail "none")) | walk1 | dsimp only)))
      refine' slice_upto (i := i) (vs := vs2) (by assumption) (by assumption) (News.isList (by assumption) (by k_mem)) (by omega) (by omega) ?_ (by with_unfolding_all rfl) (by intro _; with_unfolding_all rfl)
      intro D1 h10 F5 N5 lD1
      k_lt lD1
      (repeat' ((fail_if_success (with_reducible show wpAny _ _ (subscriptTail _ _ _ _) _ _ _)); (first | (k_unfold; (try dsimp only)) | ((with_reducible show wpAny _ _ (execs (_ :: _) _) _ _ _); first | k_gentoks | ((with_reducible refine wpAny_execs_cons ?_); k_fold)) | ((first | ((with_reducible show wpAny _ _ (storeName _ _ _) _ _ _); k_dflt (refine' storeX_M ?Fz ?Nz ?_ ?az ?bz; (case Fz => k_asm); (case Nz => k_asm); (case az => rfl); (case bz => rfl); k_whole; intro _ _ _ _; (try k_sweep))) | fail "none")) | walk1 | dsimp only)))
      refine sub_hit (i := i) (vs := vs2) (ns := ns2) (News.isList (by assumption) (by k_mem)) (by assumption) (by omega) hy hz2 fun te => ?_
      (repeat' ((fail_if_success (with_reducible show wpAny _ _ (call (Value.builtin "list.count") _) _ _ _)); (first | (k_unfold; (try dsimp only)) | ((with_reducible show wpAny _ _ (execs (_ :: _) _) _ _ _); first | k_gentoks | ((with_reducible refine wpAny_execs_cons ?_); k_fold)) | ((first | ((with_reducible show wpAny _ _ (storeName _ _ _) _ _ _); k_dflt (refine' storeX_M ?Fz ?Nz ?_ ?az ?bz; (case Fz => k_asm); (case Nz => k_asm); (case az => rfl); (case bz => rfl); k_whole; intro _ _ _ _; (try k_sweep))) | fail "none")) | walk1 | dsimp only)))
      refine count_list_strs (News.isList (by assumption) (by k_mem)) (strs_take i (by assumption : StrsAre vs2 ns2)) ?_
      (repeat' ((fail_if_success (with_reducible show wpAny _ _ (subscriptTail _ _ _ _) _ _ _)); (first | (k_unfold; (try dsimp only)) | ((with_reducible show wpAny _ _ (execs (_ :: _) _) _ _ _); first | k_gentoks | ((with_reducible refine wpAny_execs_cons ?_); k_fold)) | ((first | ((with_reducible show wpAny _ _ (storeName _ _ _) _ _ _); k_dflt (refine' storeX_M ?Fz ?Nz ?_ ?az ?bz; (case Fz => k_asm); (case Nz => k_asm); (case az => rfl); (case bz => rfl); k_whole; intro _ _ _ _; (try k_sweep))) | fail "none")) | walk1 | dsimp only)))
      refine sub_hit (i := i) (vs := vs2) (ns := ns2) (News.isList (by assumption) (by k_mem)) (by assumption) (by omega) hy hz2 fun te2 => ?_
      (repeat' ((fail_if_success (with_reducible show wpAny _ _ (call (Value.builtin "list.count") _) _ _ _)); (first | (k_unfold; (try dsimp only)) | ((with_reducible show wpAny _ _ (execs (_ :: _) _) _ _ _); first | k_gentoks | ((with_reducible refine wpAny_execs_cons ?_); k_fold)) | ((first | ((with_reducible show wpAny _ _ (storeName _ _ _) _ _ _); k_dflt (refine' storeX_M ?Fz ?Nz ?_ ?az ?bz; (case Fz => k_asm); (case Nz => k_asm); (case az => rfl); (case bz => rfl); k_whole; intro _ _ _ _; (try k_sweep))) | fail "none")) | walk1 | dsimp only)))
      refine count_list_strs (News.isList (by assumption) (by k_mem)) (by assumption : StrsAre vs1 ns1) ?_
      rw [cnt_strs, cnt_strs]
      (repeat' (first | (k_unfold; (try dsimp only)) | (k_end; wrow_close) | ((with_reducible show wpAny _ _ (execs (_ :: _) _) _ _ _); first | k_gentoks | ((with_reducible refine wpAny_execs_cons ?_); k_fold)) | ((first | ((with_reducible show wpAny _ _ (storeName _ _ _) _ _ _); k_dflt (refine' storeX_M ?Fz ?Nz ?_ ?az ?bz; (case Fz => k_asm); (case Nz => k_asm); (case az => rfl); (case bz => rfl); k_whole; intro _ _ _ _; (try k_sweep))) | fail "none")) | walk1 | dsimp only | (leave1; walk_say "STEP leave1"; try dsimp only) | fail "no step"))
      · (with_reducible rename Fr _ _ _ _ => F8)
        (with_reducible rename News _ _ _ _ => N8)
        have hyd : ns2.getD z.toNat Str.empty = y := by rw [hzi, List.getD_eq_getElem?_getD, hy]; rfl
        have hle : ns1.count y ≤ (ns2.take i).count y := by omega
        rw [hyd, List.push_toArray] at N8
        refine ⟨(vu ++ [.str y _], nu + 1), _, _, _, rfl, ?_, F8, news_sub N8 (by kd_inAll), ?_⟩
        · intro q hq
          have : q ≠ Str.ofString "place" := by rintro rfl; revert hq; decide +kernel
          simp +zetaDelta only [if_neg this, hq, Bool.false_eq_true, if_false]
        · dsimp only
          rw [left_step hy, if_pos hle]
          exact StrsAre.append' (by assumption : StrsAre vu (leftF (fun y => ns1.count y) (ns2.take i))) (.cons _ _ .nil)
      · (with_reducible rename Fr _ _ _ _ => F8)
        (with_reducible rename News _ _ _ _ => N8)
        have hle : ¬ ns1.count y ≤ (ns2.take i).count y := by omega
        refine ⟨(vu, nu), _, _, _, rfl, ?_, F8, news_sub N8 (by kd_inAll), ?_⟩
        · intro q hq
          have : q ≠ Str.ofString "place" := by rintro rfl; revert hq; decide +kernel
          simp +zetaDelta only [if_neg this, hq, Bool.false_eq_true, if_false]
        · dsimp only
          rw [left_step hy, if_neg hle, List.append_nil]
          assumption
    case done2 =>
      rintro ⟨vu, nu⟩ u h9 tk9 hJ F2 N2
      dsimp only at hJ
      rw [List.take_of_length_le (Nat.le_refl _)] at hJ
      have F3 : Fr g L' h9 _ := F2
      have N3 : News g L' h9 [(U, listOf vu.toArray nu), (M, listOf vm.toArray nm), (l1, listOf vs1.toArray n1), (l2, listOf vs2.toArray n2)] := N2
      clear F2 N2 F7 N7
      dsimp only
      (repeat' (first | (k_unfold; (try dsimp only)) | (k_end; wrow_close) | ((with_reducible show wpAny _ _ (execs (_ :: _) _) _ _ _); first | k_gentoks | ((with_reducible refine wpAny_execs_cons ?_); k_fold)) | ((first | ((with_reducible show wpAny _ _ (storeName _ _ _) _ _ _); k_dflt (refine' storeX_M ?Fz ?Nz ?_ ?az ?bz; (case Fz => k_asm); (case Nz => k_asm); (case az => rfl); (case bz => rfl); k_whole; intro _ _ _ _; (try k_sweep))) | fail "none")) | walk1 | dsimp only | (leave1; walk_say "STEP leave1"; try dsimp only) | fail "no step"))
      (with_reducible rename Fr _ _ _ _ => Kf)
      (with_reducible rename News _ _ _ _ => Kn)
      clear Kf Kn
      (with_reducible rename Fr _ _ _ _ => F9)
      (with_reducible rename News _ _ _ _ => N9)
      rename_i lT _ _
      obtain ⟨lT1, lT2, lT3, lT4⟩ := lT
      refine h _ M U vm nm vu nu _ _ (fun b o hb e => F9.keep b o (GS b o e (by simpa using hb))) (N9 (l1, listOf vs1.toArray n1) (by k_mem)).1 (N9 (l2, listOf vs2.toArray n2) (by k_mem)).1 (fresh_back GS N9 (.head _) ?_) (fresh_back GS N9 (by k_mem : (M, _) ∈ _) ?_) (fresh_back GS N9 (by k_mem : (U, _) ∈ _) ?_) (N9 _ (.head _)).1 (N9 (M, listOf vm.toArray nm) (by k_mem)).1 (by assumption) (N9 (U, listOf vu.toArray nu) (by k_mem)).1 (by assumption)
      all_goals (intro hm9; simp only [List.mem_cons, List.map_cons, List.map_nil, List.not_mem_nil, or_false] at hm9; rcases hm9 with e9 | e9 <;> (have e8 : @Eq Nat _ _ := e9; omega))
end
section
/-- the law's end where code tables may grow and generators are made: it returns True, all else stands -/
theorem own_post {M : Model} {A : Around} {cd : Code} {s s₁ : Shared} {cw : ClaimW} {cl : Str → Option Addr} {mean : ExcName → Option Value} {args : List WData} {tabs : List (Addr × Addr)} (hT : TabsAt tabs s₁.heap) (hnr : ∀ cls, cw.raises args cls = false) (hp : cw.post args (.bool true) args = true)
    (h : codeAny M A cd (fun r s' => r = .ok (.ret (.bool true)) ∧ (∀ b o, (ghostOf s₁.heap tabs).get? b = some o → s'.heap.get? b = some o) ∧ s'.os = s₁.os ∧ AllBare s'.gens ∧ GrownAll tabs s'.heap) s) : codeAny M A cd (GoodWG cw cl mean args s₁) s := by
  refine codeAny_mono h ?_
  rintro r s' ⟨rfl, hk, hos, hg, hgr⟩
  have tabd : ∀ b o, s₁.heap.get? b = some o → b ∈ tabs.map (·.2) → isCodeTable s₁.heap b ∧ o = tabObj #[] ∧ ∃ ps, s'.heap.get? b = some (tabObj ps) := fun b o e hb => by
    obtain ⟨q, hq, rfl⟩ := List.mem_map.mp hb
    obtain ⟨hc, ht⟩ := hT q hq
    rw [e] at ht
    exact ⟨(hc.tab (hT q hq).2).isCodeTable, Option.some.inj ht, hgr.get q hq⟩
  refine ⟨.inl ⟨_, _, _, rfl, hnr, .bool true, hp, fun _ => ⟨.nil, fun a ha => nomatch ha⟩⟩, ⟨fun b o e => ?_, fun b o e => ?_⟩, hos, hg⟩
  · by_cases hb : b ∈ tabs.map (·.2)
    · obtain ⟨ht, rfl, ps, hP⟩ := tabd b o e hb
      exact .inr (.inl ⟨ht, rfl, #[], ps, rfl, by rw [Array.empty_append]; exact hP⟩)
    · exact .inl (hk b o (ghost_ne e hb))
  · by_cases hb : b ∈ tabs.map (·.2)
    · obtain ⟨_, _, ps, hP⟩ := tabd b o e hb
      exact ⟨_, hP⟩
    · exact ⟨o, hk b o (ghost_ne e hb)⟩
end
section
noncomputable def NeA (a b : Nat) : Prop := a ≠ b
theorem NeA.ne {a b : Nat} (h : NeA a b) : a ≠ b := h
theorem NeA.ne' {a b : Nat} (h : NeA b a) : a ≠ b := Ne.symm h
noncomputable def OffA (D : Nat) : List (Addr × Obj) → Prop
  | [] => True
  | p :: r => NeA p.1 D ∧ OffA D r
theorem OffA.ne {D a : Nat} {o : Obj} : ∀ {l : List (Addr × Obj)}, OffA D l → (a, o) ∈ l → a ≠ D
  | _ :: _, h, .head _ => h.1
  | _ :: _, h, .tail _ m => OffA.ne h.2 m
theorem OffA.ne' {D a : Nat} {o : Obj} {l : List (Addr × Obj)} (h : OffA D l) (m : (a, o) ∈ l) : D ≠ a := Ne.symm (h.ne m)
inductive StepD (g : Heap) (L : Addr) (h' : Heap) (m : Str → Option Value) (news : List (Addr × Obj)) (D : Addr) (oD : Obj) : Prop
  | mk (F : Fr g L h' m) (N : News g L h' ((D, oD) :: news)) (q : OffA D news) : StepD g L h' m news D oD
theorem offA_of {D : Addr} : ∀ {l : List (Addr × Obj)}, (∀ q ∈ l, q.1 ≠ D) → OffA D l
  | [], _ => trivial
  | p :: r, h => ⟨h p (.head _), offA_of fun q hq => h q (.tail _ hq)⟩
section
variable {g h h' : Heap} {L : Addr} {m : Str → Option Value} {news : List (Addr × Obj)} {D P l : Addr} {o o' oD : Obj} {gU : Obj → List (Addr × Obj)}
theorem led_cons (F : Fr g L h m) (N : News g L h news) (N' : News g L h' news') (fD : h.get? D = none) (hD : h'.get? D = some oD) : News g L h' ((D, oD) :: news') ∧ OffA D news := by
  refine ⟨fun q hq => ?_, offA_of fun q hq e => ?_⟩
  · rcases List.mem_cons.mp hq with rfl | hq
    · refine ⟨hD, ?_, ?_⟩
      · rintro rfl; obtain ⟨o', _, _, ho, _⟩ := F.ns; rw [fD] at ho; cases ho
      · cases q : g.get? D with
        | none => rfl
        | some o' => have := F.keep _ _ q; rw [fD] at this; cases this
    · exact N' q hq
  · have := (N q hq).1; rw [e, fD] at this; cases this
theorem led_same (N : News g L h news) (hm : (l, o) ∈ news) (k : Kx [l] h h') (hl : h'.get? l = some o) : News g L h' news := fun q hq => by
  refine ⟨?_, (N q hq).2⟩
  by_cases e : q.1 = l
  · have h1 := (N q hq).1
    rw [e, (N _ hm).1] at h1
    rw [e, hl, h1]
  · exact k _ _ (by simpa using e) (N q hq).1
theorem fr_same (F : Fr g L h m) (N : News g L h news) (hm : (l, o) ∈ news) (k : Kx [l] h h') : Fr g L h' m :=
  fr_kxL F k (fun b hb => by rw [List.mem_singleton.mp hb]; exact (N _ hm).2.2) (fun hb => (N _ hm).2.1 (List.mem_singleton.mp hb).symm)
theorem step_same (F : Fr g L h m) (N : News g L h news) (hm : (l, o) ∈ news) (k : Kx [l] h h') (hl : h'.get? l = some o) (fD : h.get? D = none) (hD : h'.get? D = some oD) : StepD g L h' m news D oD :=
  have p := led_cons F N (led_same N hm k hl) fD hD
  ⟨fr_same F N hm k, p.1, p.2⟩
theorem step_kp (F : Fr g L h m) (N : News g L h news) (k : Kp h h') (fD : h.get? D = none) (hD : h'.get? D = some oD) : StepD g L h' m news D oD :=
  have p := led_cons F N (N.grown k) fD hD
  ⟨F.keeps k, p.1, p.2⟩
theorem led_upd {X : List Addr} (N : News g L h news) (U : UpdF P o news gU) (k : Kx X h h') (hX : ∀ b ∈ X, b = P ∨ b = L) (hP : h'.get? P = some o') : News g L h' (gU o') := by
  obtain ⟨pre, post, rfl, hg, p1, p2⟩ := U.split
  rw [hg]
  have up : ∀ q ∈ pre ++ (P, o) :: post, q.1 ≠ P → h'.get? q.1 = some q.2 ∧ q.1 ≠ L ∧ g.get? q.1 = none := fun q hq hne => by
    have z := N q hq
    refine ⟨k _ _ (fun hb => ?_) z.1, z.2⟩
    rcases hX _ hb with e | e
    · exact hne e
    · exact z.2.1 e
  intro q hq
  rcases List.mem_append.mp hq with hq | hq
  · exact up q (List.mem_append_left _ hq) (p1 q hq)
  · rcases List.mem_cons.mp hq with rfl | hq
    · exact ⟨hP, (N (P, o) (List.mem_append_right _ (.head _))).2⟩
    · exact up q (List.mem_append_right _ (.tail _ hq)) (p2 q hq)
theorem step_tab (F : Fr g L h m) (N : News g L h news) (U : UpdF P o news gU) (k : Kx [P] h h') (hP : h'.get? P = some o') : Fr g L h' m ∧ News g L h' (gU o') := by
  have hm : (P, o) ∈ news := by
    obtain ⟨pre, post, rfl, _⟩ := U.split
    exact List.mem_append_right _ (.head _)
  exact ⟨fr_same F N hm k, led_upd N U k (fun b hb => .inl (List.mem_singleton.mp hb)) hP⟩
theorem led_pick {x y a : Addr} {o1 : Obj} {rest : List (Addr × Obj)} (N : News g L h news) (k : Kx [L, x, y] h h') (hm : (a, o1) ∈ news) (h1 : @Ne Nat a x) (h2 : @Ne Nat a y) (r : News g L h' rest) : News g L h' ((a, o1) :: rest) := fun q hq => by
  rcases List.mem_cons.mp hq with rfl | hq
  · have z := N _ hm
    refine ⟨k _ _ (fun hb => ?_) z.1, z.2⟩
    simp only [List.mem_cons, List.not_mem_nil, or_false] at hb
    rcases hb with e | e | e
    · exact z.2.1 e
    · exact h1 e
    · exact h2 e
  · exact r q hq
theorem news_put {a : Addr} {o1 : Obj} {rest : List (Addr × Obj)} (z : h'.get? a = some o1) (z2 : a ≠ L ∧ g.get? a = none) (r : News g L h' rest) : News g L h' ((a, o1) :: rest) := fun q hq => by
  rcases List.mem_cons.mp hq with rfl | hq
  · exact ⟨z, z2⟩
  · exact r q hq
theorem led_same2 {l2 : Addr} {o2 : Obj} (N : News g L h news) (hm : (l, o) ∈ news) (hm2 : (l2, o2) ∈ news) (k : Kx [l, l2] h h') (hl : h'.get? l = some o) (hl2 : h'.get? l2 = some o2) : News g L h' news := fun q hq => by
  refine ⟨?_, (N q hq).2⟩
  by_cases e : q.1 = l
  · have h1 := (N q hq).1
    rw [e, (N _ hm).1] at h1
    rw [e, hl, h1]
  · by_cases e2 : q.1 = l2
    · have h1 := (N q hq).1
      rw [e2, (N _ hm2).1] at h1
      rw [e2, hl2, h1]
    · exact k _ _ (by simp only [List.mem_cons, List.not_mem_nil, or_false, not_or]; exact ⟨e, e2⟩) (N q hq).1
theorem fr_same2 {l2 : Addr} {o2 : Obj} (F : Fr g L h m) (N : News g L h news) (hm : (l, o) ∈ news) (hm2 : (l2, o2) ∈ news) (k : Kx [l, l2] h h') : Fr g L h' m :=
  fr_kxL F k (fun b hb => by
    simp only [List.mem_cons, List.not_mem_nil, or_false] at hb
    rcases hb with rfl | rfl
    · exact (N _ hm).2.2
    · exact (N _ hm2).2.2) (fun hb => by
    simp only [List.mem_cons, List.not_mem_nil, or_false] at hb
    rcases hb with e | e
    · exact (N _ hm).2.1 e.symm
    · exact (N _ hm2).2.1 e.symm)
theorem fresh_put (F : Fr g L h m) (fD : h.get? D = none) : D ≠ L ∧ g.get? D = none := by
  refine ⟨?_, ?_⟩
  · rintro rfl; obtain ⟨o', _, _, ho, _⟩ := F.ns; rw [fD] at ho; cases ho
  · cases q : g.get? D with
    | none => rfl
    | some o' => have := F.keep _ _ q; rw [fD] at this; cases this
theorem off_fresh (N : News g L h news) (fD : h.get? D = none) : OffA D news := offA_of fun q hq e => by
  have := (N q hq).1; rw [e, fD] at this; cases this
end
end
section
open PySem PySem.W PyProof.Rows PySem.Spec
theorem opens_said : ∀ g ∈ menu, ∀ x ∈ names0 ++ words3, opensS g x = saidS g x := by
  have h : ((names0 ++ words3).all fun x => menu.all fun g => opensS g x == saidS g x) = true := by decide +kernel
  intro g hg x hx
  exact eq_of_beq (List.all_eq_true.mp (List.all_eq_true.mp h x hx) g hg)
theorem opened_due {globs names : List Str} (hg : ∀ g ∈ globs, g ∈ menu) (hn : ∀ x ∈ names, x ∈ names0 ++ words3) : openedF globs names = globs.flatMap fun g => names.filter (saidS g) := by
  unfold openedF
  have e : ∀ g ∈ globs, names.filter (opensS g) = names.filter (saidS g) := fun g h => List.filter_congr fun x hx => opens_said g (hg g h) x (hn x hx)
  induction globs with
  | nil => rfl
  | cons a r ih =>
    rw [List.flatMap_cons, List.flatMap_cons, e a (.head _), ih (fun g h => hg g (.tail _ h)) (fun g h => e g (.tail _ h))]
theorem mem_due {globs names : List Str} {x : Str} (h : x ∈ globs.flatMap fun g => names.filter (saidS g)) : x ∈ names := by
  obtain ⟨g, _, hx⟩ := List.mem_flatMap.mp h
  exact (List.mem_filter.mp hx).1
theorem due_len (globs names : List Str) : (globs.flatMap fun g => names.filter (saidS g)).length ≤ globs.length * names.length := by
  induction globs with
  | nil => simp
  | cons a r ih =>
    rw [List.flatMap_cons, List.length_append, List.length_cons, Nat.succ_mul]
    have := List.length_filter_le (saidS a) names
    omega
theorem wordOf_mem (z : Int) : wordOf z ∈ menu := by
  have h8 : 0 ≤ z.fmod 8 ∧ z.fmod 8 < 8 := ⟨Int.fmod_nonneg_of_pos z (by decide), Int.fmod_lt_of_pos z (by decide)⟩
  have hlt : (z.fmod 8).toNat < menu.length := by show _ < 8; omega
  unfold wordOf
  rw [List.getD_eq_getElem?_getD, List.getElem?_eq_getElem hlt]
  exact List.getElem_mem hlt
theorem words_menu (l : List Int) : ∀ x ∈ l.map wordOf, x ∈ menu := by
  intro x hx
  obtain ⟨z, _, rfl⟩ := List.mem_map.mp hx
  exact wordOf_mem z
theorem menu_ok : OkS menu := by
  have h : (menu.all fun x => PyData.strOk x) = true := by decide +kernel
  exact fun x hx => List.all_eq_true.mp h x hx
theorem okS_left {c : Str → Nat} {l : List Str} (h : OkS l) : OkS (leftF c l) := fun x hx => h x (by
  have := (mem_leftF l c x).mp hx
  exact List.count_pos_iff.mp (by omega))
theorem okS_rev {l : List Str} (h : OkS l) : OkS l.reverse := fun x hx => h x (List.mem_reverse.mp hx)
end
section
local macro_rules | `(tactic| k_ne) => `(tactic| (refine neN ?_; (try dsimp only); first | (refine NeA.ne ?_; with_reducible assumption) | (refine NeA.ne' ?_; with_reducible assumption) | (refine' OffA.ne ?h9 ?m9; (case h9 => with_reducible assumption); (case m9 => k_mem)) | (refine' OffA.ne' ?h9 ?m9; (case h9 => with_reducible assumption); (case m9 => k_mem)) | fail "none"))
local macro_rules | `(tactic| size_fits) => `(tactic| exact Nat.le_of_ble_eq_true rfl)
theorem h_wit : PySem.Challenge.rw_ij0188_01.row.toRowW.promised := by w_witness2
theorem law_t : PySem.Challenge.rw_ij0188_01.Holds := holds_law h_said fun said => by
  refine holds_open (q := tVQ) (loose := tLQ) (Xt := fun s => xlAt tVQ [] s && recOk (RowW.records PySem.Challenge.rw_ij0188_01.row.toRowW) s) (XP := XL tVQ []) (Yf := tHK.obs) (Ya := tHK.val) (YP := tHK.says) (N := 13344) h_left tHK.of tHK.keeps (fun s e => xl_of s (Bool.and_eq_true_iff.mp e).1) XL.keeps (by rfl) (by rfl) (by rfl) (fun s e => recFacts_of (Bool.and_eq_true_iff.mp e).2) rfl said (by decide +kernel) ⟨rfl, rfl, rfl, rfl, rfl, by decide +kernel⟩ h_wit ?_
  intro w s₀ s₁ mg mb G Y fa o pm cd doc dV kV ho hd0 hcd hD hmg hg args vals as hpre hlay hrd hwl hlo
  have KX := km_in_of Y
  km_tabs Y
  have X := (Ground.X G).1
  have V := (Ground.X G).2
  refine Ground.open G ?_
  intro T B D TE TW
  try (refine guard_noD D (by decide +kernel) ?_; clear D)
  have hT9 : TabsAt ([(81, 77), (788, 784)] : List (Addr × Addr)) _ := List.forall_mem_cons.mpr ⟨⟨codeHd_of_K (c := 81) (P := 77) KX (by kernel_rfl), hT8 77 (by k_mem)⟩, List.forall_mem_cons.mpr ⟨⟨codeHd_of_K (c := 788) (P := 784) KX (by kernel_rfl), hT8 784 (by k_mem)⟩, fun _ h => nomatch h⟩⟩
  clear hmg
  wrow_args hpre hlay hrd hwl hlo
  all_goals (
    first | refine callC_kw (enter_call ?_) | refine enter_call ?_
    w_top on
    refine own_post hT9 (fun _ => rfl) ?hpost ?_
    case hpost => with_unfolding_all rfl
    w_call any ho hd0 hcd hD T F
    clear hd0
    kn_ghosts F T
    k_drop
    skip)
  (all_goals try k_fold)
  (repeat' ((fail_if_success (with_reducible show wpAny _ _ (exec (PySem.Stmt.Assign _ (PySem.Expr.ListComp _ _ _ _) _) _) _ _ _)); (fail_if_success (with_reducible show wpAny _ _ (eval (PySem.Expr.ListComp _ _ _ _) _) _ _ _)); (fail_if_success (with_reducible show wpAny _ _ (call (Value.ref _) _) _ _ _)); (first | (k_unfold; (try dsimp only)) | walk1 | (dsimp only; walk1))))
  rename_i xs hs hlay0 hLy hr1 hl2 w8 w7 lS vs0 w4 hLs ra w1 r0 hI hr2 hc63 hcT h₁ tk₁ ob4 ob3 ob2 ob1 d4 d3 d2 d1 X0 X1 T1 K1 cHa l0 D1 ws1 h1 F1 N1 hI1 hC1 hL1 lt1
  clear ra w1 r0 hr2 hcT hr1 hl2 hlay0 hs w4 X0 hLy w8 w7
  generalize hgg : ghostOf s₁.heap [(81, 77), (788, 784)] = g at *
  generalize hLL : s₁.heap.objs.size = L at *
  have hz2 : (xs.take 2).length ≤ 10 := by rw [List.length_take]; exact Nat.le_trans (Nat.min_le_left _ _) (by decide)
  refine names_spec (n := 0) ?hcx1 hI1 hz2 fun NN vn kN h2 tk2 kx2 fN hl2 hNN hvn => ?_
  case hcx1 => exact ⟨_, _, _, _, _, L, _, _, _, [], callerA, g, g, _, _, _, _, rfl, K1, F1, X1, T1, by exact rfl, by decide, by decide, news_sub N1 (by kd_inAll)⟩
  dsimp only at kx2 fN
  obtain ⟨F2, N2, q2⟩ := step_same F1 N1 (.head _) kx2 hl2 fN hNN
  clear F1 N1 kx2 fN hl2 hNN
  (repeat' ((fail_if_success (with_reducible show wpAny _ _ (exec (PySem.Stmt.Assign _ (PySem.Expr.ListComp _ _ _ _) _) _) _ _ _)); (fail_if_success (with_reducible show wpAny _ _ (eval (PySem.Expr.ListComp _ _ _ _) _) _ _ _)); (fail_if_success (with_reducible show wpAny _ _ (call (Value.ref _) _) _ _ _)); (first | (k_unfold; (try dsimp only)) | walk1 | (dsimp only; walk1))))
  rename_i hA oc1 dc1 lA hB ltA DA wsA hC hIA hCA hLA ltB NU nu hD' hI2 ltC h3 F3 N3
  have N3a : News g L h3 [(NU, listOf nu.toArray 0), (NN, listOf vn.toArray kN), (L + 1 + 1 + 1 + 1, ob4), (L + 1 + 1 + 1, ob3), (L + 1 + 1, ob2), (L + 1, oc1), (77, tabObj #[]), (784, tabObj #[])] := news_sub N3 (by kd_inAll)
  clear N3 hIA hCA hLA ltB ltA lt1 hI1 hC1 hL1
  have hz3 : ([8, 37] ++ xs.take 3).length ≤ 5 := by rw [List.length_append, List.length_take]; exact Nat.add_le_add_left (Nat.min_le_left _ _) 2
  obtain ⟨nums, hnums⟩ : ∃ nums, nums = [8, 37] ++ xs.take 3 := ⟨_, rfl⟩
  rw [← hnums] at hI2 hz3
  refine words_spec (n := 0) ?hcx2 hI2 (by omega) fun W1 v1 k1 h4 tk4 kx4 fW1 hl4 hW1 hw1 => ?_
  case hcx2 => exact ⟨_, _, _, _, _, L, _, _, _, [], callerA, g, g, _, _, _, _, rfl, K1, F3, X1, T1, by exact rfl, by decide, by decide, news_sub N3a (by kd_inAll)⟩
  dsimp only at kx4 fW1
  obtain ⟨F4, N4, q4⟩ := step_same F3 N3a (.head _) kx4 hl4 fW1 hW1
  clear F3 N3a kx4 fW1 hl4 hW1
  (repeat' ((fail_if_success (with_reducible show wpAny _ _ (exec (PySem.Stmt.Assign _ (PySem.Expr.ListComp _ _ _ _) _) _) _ _ _)); (fail_if_success (with_reducible show wpAny _ _ (eval (PySem.Expr.ListComp _ _ _ _) _) _ _ _)); (fail_if_success (with_reducible show wpAny _ _ (call (Value.ref _) _) _ _ _)); (first | (k_unfold; (try dsimp only)) | walk1 | (dsimp only; walk1))))
  refine' compL (n := nums.length) (P := fun i v => nu[i]? = some v) (fun _ => true) (fun v y => ∃ z t t', v = Value.int z t ∧ y = Value.int (z.fdiv 8) t') F4 N4 ?cc ?ccell rfl ?cnames rfl ?csrc ?cq ?cdone
  case cc => rfl
  case ccell => decide +kernel
  case cnames => decide +kernel
  case csrc =>
    (repeat' ((fail_if_success (with_reducible show wpAny _ _ (pyIter _) _ _ _)); (first | (k_unfold; (try dsimp only)) | walk1 | (dsimp only; walk1))))
    rw [← hI2.length]
    refine src_list rfl rfl (fun _ _ e => e) (Nat.le_refl _) ⟨_, (N4 (NU, listOf nu.toArray 0) (by k_mem)).1, rfl, _, rfl⟩ ?_
    rw [hI2.length, sizeLine_eq]; omega
  case cq =>
    refine ⟨fun C i v s₃ m₃ E' hP hn3 hm3 F12 N12 => ?_, fun C i v s₃ m₃ E' hP hp hn3 hm3 F12 N12 => ?_⟩
    · exact wpAny_pure ⟨rfl, _, _, rfl, fun _ _ e => e⟩
    · obtain ⟨z, t, rfl, he⟩ := hI2.at i v hP
      refine wpAny_BinOp (ldVarK hn3 hm3 (wpAny_Constant_int (floordiv_int (by decide) ?_)))
      exact ⟨⟨z, t, _, rfl, rfl⟩, _, _, rfl, fun _ _ e => e⟩
  case cdone =>
  intro NV h5 tk5 nv us kv F5 N5 l5 hlen5 hP5 hF5
  have e5 : us = nu := same_list (by rw [hlen5, hI2.length]) hP5
  subst e5
  rw [List.filter_eq_self.mpr (fun _ _ => rfl)] at hF5
  have hI5 := paired_map hF5 hI2
  have q5 := offA_of l5
  have hz5 : (nums.map fun z => z.fdiv 8).length ≤ 5 := by rw [List.length_map]; exact hz3
  clear F4 N4 hF5 hP5 l5 hlen5
  (repeat' ((fail_if_success (with_reducible show wpAny _ _ (exec (PySem.Stmt.Assign _ (PySem.Expr.ListComp _ _ _ _) _) _) _ _ _)); (fail_if_success (with_reducible show wpAny _ _ (eval (PySem.Expr.ListComp _ _ _ _) _) _ _ _)); (fail_if_success (with_reducible show wpAny _ _ (call (Value.ref _) _) _ _ _)); (first | (k_unfold; (try dsimp only)) | walk1 | (dsimp only; walk1))))
  refine words_spec (n := kv) ?hcx3 hI5 (by omega) fun W2 v2 k2 h6 tk6 kx6 fW2 hl6 hW2 hw2 => ?_
  case hcx3 => exact ⟨_, _, _, _, _, L, _, _, _, [], callerA, g, g, _, _, _, _, rfl, K1, F5, X1, T1, by exact rfl, by decide, by decide, news_sub N5 (by kd_inAll)⟩
  dsimp only at kx6 fW2
  obtain ⟨F6, N6, q6⟩ := step_same F5 N5 (.head _) kx6 hl6 fW2 hW2
  clear F5 N5 kx6 fW2 hl6 hW2
  (repeat' ((fail_if_success (with_reducible show wpAny _ _ (exec (PySem.Stmt.Assign _ (PySem.Expr.ListComp _ _ _ _) _) _) _ _ _)); (fail_if_success (with_reducible show wpAny _ _ (eval (PySem.Expr.ListComp _ _ _ _) _) _ _ _)); (fail_if_success (with_reducible show wpAny _ _ (call (Value.ref _) _) _ _ _)); (first | (k_unfold; (try dsimp only)) | walk1 | (dsimp only; walk1))))
  rename_i WW hW0 FW0 NW0 ltW h7 F7 N7
  clear FW0 NW0
  have hne1 : nums ≠ [] := by rw [hnums]; simp
  refine' lines_K (W := WW) (vs := [.ref W1, .ref W2]) (tgt := [nums.map wordOf, (nums.map fun e => e.fdiv 8).map wordOf]) (nW := 0) (ps := #[]) K1 F7 X1 T1 ?lk (by decide) (by decide) (news_sub N7 (by kd_inAll)) ?lW (tabOk_nil posG) ?lb (by show 2 ≤ 100; decide) ?lsrc ?liter ?lclos ?lcell ?lkind ?lnames ?lx ?lk1 ?lk2 ?lk3 ?lhs ?lhy ?lhsw fun D3 ys3 bad3 ps3 s3 b3 o3 F8 kx8 fD3 hDb3 hD3 hlen3 hmade ht3 ok3 => ?_
  case lk => rfl
  case lW => refine neN ?_; omega
  case lb => exact .of_eq hg
  case liter =>
    k_dflt (refine' nameX_L F7 ?nv ?_ ?na ?nb; (case na => rfl); (case nb => rfl); (case nv => rfl))
    exact ⟨rfl, rfl⟩
  case lclos => rfl
  case lcell => decide +kernel
  case lkind => rfl
  case lnames => decide +kernel
  case lx => rfl
  case lk1 => rfl
  case lk2 => rfl
  case lk3 => rfl
  case lhs => intro _; rfl
  case lhy => rfl
  case lhsw => rfl
  case lsrc =>
    intro i v hv
    match i, hv with
    | 0, hv =>
      cases hv
      exact ⟨W1, v1, k1, _, rfl, N7 (W1, listOf v1.toArray k1) (by k_mem), (by k_ne), rfl, hw1, words_menu _, by simpa using hne1, by rw [List.length_map]; omega⟩
    | 1, hv =>
      cases hv
      exact ⟨W2, v2, k2, _, rfl, N7 (W2, listOf v2.toArray k2) (by k_mem), (by k_ne), rfl, hw2, words_menu _, by simpa using hne1, by rw [List.length_map, List.length_map]; omega⟩
  obtain ⟨S1, S2, u1, u2, m1, m2, rfl, nS, fS1, fS2, hS1, hS2, hu1, hu2, bS1, bS2⟩ := hmade.two hlen3
  obtain ⟨h8, g8, dr8, tk8, os8⟩ := s3
  dsimp only at b3 o3 F8 kx8 fD3 hD3 hS1 hS2 ht3 fS1 fS2
  have N8a := led_upd N7 (by k_updF) kx8 (fun b hb => by simp only [List.mem_cons, List.not_mem_nil, or_false] at hb; exact hb.symm) ht3
  have p_N8b := led_cons F7 N7 N8a fS2 hS2
  have N8b := p_N8b.1
  have q8a := p_N8b.2
  clear p_N8b
  have p_N8c := led_cons F7 N7 N8b fS1 hS1
  have N8c := p_N8c.1
  have q8b := p_N8c.2
  clear p_N8c
  have p_N8d := led_cons F7 N7 N8c fD3 hD3
  have N8d := p_N8d.1
  have q8c := p_N8d.2
  clear p_N8d
  have n8 : NeA S1 D3 ∧ NeA S2 D3 ∧ NeA S1 S2 := ⟨fun e => bS1 (e ▸ hDb3), fun e => bS2 (e ▸ hDb3), nS⟩
  have n8a := n8.1
  have n8b := n8.2.1
  have n8c := n8.2.2
  have N8 : News g L h8 [(D3, listOf #[.ref S1, .ref S2] 2), (S1, listOf u1.toArray m1), (S2, listOf u2.toArray m2), (WW, listOf #[.ref W1, .ref W2] 0), (W2, listOf v2.toArray k2), (W1, listOf v1.toArray k1), (NN, listOf vn.toArray kN), (L + 1 + 1 + 1 + 1, ob4), (L + 1 + 1 + 1, ob3), (L + 1 + 1, ob2), (L + 1, oc1), (77, tabObj #[]), (784, tabObj ps3)] := news_sub N8d (by kd_inAll)
  clear N7 N8a N8b N8c N8d F7 kx8 fD3 fS1 fS2 hS1 hS2 hD3 ht3 hmade hlen3 bS1 bS2 hDb3
  dsimp only
  (repeat' ((fail_if_success (with_reducible show wpAny _ _ (exec (PySem.Stmt.Assign _ (PySem.Expr.ListComp _ _ _ _) _) _) _ _ _)); (fail_if_success (with_reducible show wpAny _ _ (eval (PySem.Expr.ListComp _ _ _ _) _) _ _ _)); (fail_if_success (with_reducible show wpAny _ _ (call (Value.ref _) _) _ _ _)); (first | (k_unfold; (try dsimp only)) | walk1 | (dsimp only; walk1))))
  have hnok := namesF_ok (xs.take 2)
  obtain ⟨names, hnames⟩ : ∃ names, names = namesF (xs.take 2) := ⟨_, rfl⟩
  rw [← hnames] at hnok hvn
  have hnlen : names.length ≤ 6 := by have := hnok.2.2; rw [List.length_take] at this; omega
  have hnsm : ∀ x ∈ names, x.length ≤ 10 := fun x hx => (words_small x (hnok.1 x hx)).1
  obtain ⟨ww1, hww1⟩ : ∃ l, l = nums.map wordOf := ⟨_, rfl⟩
  obtain ⟨ww2, hww2⟩ : ∃ l, l = (nums.map fun e => e.fdiv 8).map wordOf := ⟨_, rfl⟩
  have hm1 : ∀ x ∈ ww1, x ∈ menu := hww1 ▸ words_menu _
  have hm2 : ∀ x ∈ ww2, x ∈ menu := hww2 ▸ words_menu _
  have hl1 : ww1.length ≤ 5 := by rw [hww1, List.length_map]; exact hz3
  have hl2 : ww2.length ≤ 5 := by rw [hww2, List.length_map]; exact hz5
  rw [← hww1] at hw1 hu1
  rw [← hww2] at hw2 hu2
  refine' opened_K (W := D3) (cN := L + 1) (NN := NN) (vn := vn) (names := names) (vs := [.ref S1, .ref S2]) (src0 := [ww1, ww2]) (tgt := [openedF ww1 names, openedF ww2 names]) (nW := 2) (ps := #[]) K1 F8 X1 T1 ?ok0 (by decide) (by decide) (news_sub N8 (by kd_inAll)) ?oW ?oN ?ocN dc1 (tabOk_nil posL) (by show 2 ≤ 100; decide) hvn hnsm (by omega) ?osrc ?oiter ?oclos ?ocell ?okind ?onames ?ox ?ok1 ?ok2 ?ok3 ?ocl ?ohs ?ohy ?ohsw fun D5 ys5 bad5 ps5 h9 tk9 F9 kx9 fD5 hDb5 hD5 hlen5 hmade5 ht5 ok5 => ?_
  case ok0 => rfl
  case oW => k_ne
  case oN => k_ne
  case ocN => k_ne
  case oiter =>
    k_dflt (refine' nameX_L F8 ?nv2 ?_ ?na2 ?nb2; (case na2 => rfl); (case nb2 => rfl); (case nv2 => rfl))
    exact ⟨rfl, rfl⟩
  case oclos => rfl
  case ocell => decide +kernel
  case okind => rfl
  case onames => decide +kernel
  case ox => rfl
  case ok1 => rfl
  case ok2 => rfl
  case ok3 => rfl
  case ocl => rfl
  case ohs => intro _; rfl
  case ohy => rfl
  case ohsw => rfl
  case osrc =>
    intro i v hv
    match i, hv with
    | 0, hv =>
      cases hv
      exact ⟨S1, u1, m1, ww1, rfl, (N8 (S1, listOf u1.toArray m1) (by k_mem)).1, (by k_ne), rfl, rfl, hu1, hm1, by omega⟩
    | 1, hv =>
      cases hv
      exact ⟨S2, u2, m2, ww2, rfl, (N8 (S2, listOf u2.toArray m2) (by k_mem)).1, (by k_ne), rfl, rfl, hu2, hm2, by omega⟩
  obtain ⟨O1, O2, o1, o2, j1, j2, rfl, nO, fO1, fO2, hO1, hO2, ho1, ho2, bO1, bO2⟩ := hmade5.two hlen5
  dsimp only at kx9 fD5 fO1 fO2
  have n9 : NeA O1 D5 ∧ NeA O2 D5 ∧ NeA O1 O2 := ⟨fun e => bO1 (e ▸ hDb5), fun e => bO2 (e ▸ hDb5), nO⟩
  have n9a := n9.1
  have n9b := n9.2.1
  have n9c := n9.2.2
  have N9a := led_upd N8 (by k_updF) kx9 (fun b hb => by simp only [List.mem_cons, List.not_mem_nil, or_false] at hb; exact hb.symm) ht5
  have p_N9b := led_cons F8 N8 N9a fO2 hO2
  have N9b := p_N9b.1
  have q9a := p_N9b.2
  clear p_N9b
  have p_N9c := led_cons F8 N8 N9b fO1 hO1
  have N9c := p_N9c.1
  have q9b := p_N9c.2
  clear p_N9c
  have p_N9d := led_cons F8 N8 N9c fD5 hD5
  have N9d := p_N9d.1
  have q9c := p_N9d.2
  clear p_N9d
  have N9 : News g L h9 [(D5, listOf #[.ref O1, .ref O2] 2), (O1, listOf o1.toArray j1), (O2, listOf o2.toArray j2), (D3, listOf #[.ref S1, .ref S2] 2), (S1, listOf u1.toArray m1), (S2, listOf u2.toArray m2), (WW, listOf #[.ref W1, .ref W2] 0), (W2, listOf v2.toArray k2), (W1, listOf v1.toArray k1), (NN, listOf vn.toArray kN), (L + 1 + 1 + 1 + 1, ob4), (L + 1 + 1 + 1, ob3), (L + 1 + 1, ob2), (L + 1, oc1), (77, tabObj ps5), (784, tabObj ps3)] := news_sub N9d (by kd_inAll)
  clear N8 N9a N9b N9c N9d F8 kx9 fD5 fO1 fO2 hO1 hO2 hD5 ht5 hmade5 hlen5 bO1 bO2 hDb5
  dsimp only
  (repeat' ((fail_if_success (with_reducible show wpAny _ _ (exec (PySem.Stmt.Assign _ (PySem.Expr.ListComp _ _ _ _) _) _) _ _ _)); (fail_if_success (with_reducible show wpAny _ _ (eval (PySem.Expr.ListComp _ _ _ _) _) _ _ _)); (fail_if_success (with_reducible show wpAny _ _ (call (Value.ref _) _) _ _ _)); (first | (k_unfold; (try dsimp only)) | walk1 | (dsimp only; walk1))))
  obtain ⟨dd1, hdd1⟩ : ∃ l, l = ww1.flatMap fun g => names.filter (saidS g) := ⟨_, rfl⟩
  obtain ⟨dd2, hdd2⟩ : ∃ l, l = ww2.flatMap fun g => names.filter (saidS g) := ⟨_, rfl⟩
  rw [opened_due hm1 hnok.1, ← hdd1] at ho1
  rw [opened_due hm2 hnok.1, ← hdd2] at ho2
  refine wpAny_Assign_Name ?_
  refine' due_K (W := WW) (cN := L + 1) (NN := NN) (vn := vn) (names := names) (vs := [.ref W1, .ref W2]) (tgt := [dd1, dd2]) (nW := 0) K1 F9 X1 T1 ?dk (by decide) (by decide) (news_sub N9 (by kd_inAll)) dc1 (by show 2 ≤ 100; decide) hvn hnsm (by omega) ?dsrc ?diter ?dclos ?dcell ?dkind ?dnames ?dx ?dk3 ?dclos2 ?dcell2 ?dkind2 ?dnames2 ?dx2 ?dy2 ?dj1 ?dj2 ?dj3 ?dj4 ?dcl ?dhs fun D7 ys7 bad7 h10 tk10 kp10 fD7 hDb7 hD7 hlen7 hmade7 => ?_
  case dk => rfl
  case diter =>
    k_dflt (refine' nameX_L F9 ?nv3 ?_ ?na3 ?nb3; (case na3 => rfl); (case nb3 => rfl); (case nv3 => rfl))
    exact ⟨rfl, rfl⟩
  case dclos => rfl
  case dcell => decide +kernel
  case dkind => rfl
  case dnames => decide +kernel
  case dx => rfl
  case dk3 => rfl
  case dclos2 => intro _; rfl
  case dcell2 => decide +kernel
  case dkind2 => rfl
  case dnames2 => decide +kernel
  case dx2 => rfl
  case dy2 => rfl
  case dj1 => intro _; rfl
  case dj2 => intro _; rfl
  case dj3 => intro _; rfl
  case dj4 => intro _; rfl
  case dcl => rfl
  case dhs => intro _; rfl
  case dsrc =>
    intro i v hv
    match i, hv with
    | 0, hv =>
      cases hv
      exact ⟨W1, v1, k1, ww1, rfl, (N9 (W1, listOf v1.toArray k1) (by k_mem)).1, congrArg some hdd1, hw1, hm1, by omega⟩
    | 1, hv =>
      cases hv
      exact ⟨W2, v2, k2, ww2, rfl, (N9 (W2, listOf v2.toArray k2) (by k_mem)).1, congrArg some hdd2, hw2, hm2, by omega⟩
  obtain ⟨E1, E2, e1, e2, i1, i2, rfl, nE, fE1, fE2, hE1, hE2, he1, he2, bE1, bE2⟩ := hmade7.two hlen7
  dsimp only at kp10 fD7 fE1 fE2
  have n10 : NeA E1 D7 ∧ NeA E2 D7 ∧ NeA E1 E2 := ⟨fun e => bE1 (e ▸ hDb7), fun e => bE2 (e ▸ hDb7), nE⟩
  have n10a := n10.1
  have n10b := n10.2.1
  have n10c := n10.2.2
  have F10 := F9.keeps kp10
  have N10a := N9.grown kp10
  have p_N10b := led_cons F9 N9 N10a fE2 hE2
  have N10b := p_N10b.1
  have q10a := p_N10b.2
  clear p_N10b
  have p_N10c := led_cons F9 N9 N10b fE1 hE1
  have N10c := p_N10c.1
  have q10b := p_N10c.2
  clear p_N10c
  have p_N10d := led_cons F9 N9 N10c fD7 hD7
  have N10d := p_N10d.1
  have q10c := p_N10d.2
  clear p_N10d
  have N10 : News g L h10 [(D7, listOf #[.ref E1, .ref E2] 2), (E1, listOf e1.toArray i1), (E2, listOf e2.toArray i2), (D5, listOf #[.ref O1, .ref O2] 2), (O1, listOf o1.toArray j1), (O2, listOf o2.toArray j2), (D3, listOf #[.ref S1, .ref S2] 2), (S1, listOf u1.toArray m1), (S2, listOf u2.toArray m2), (WW, listOf #[.ref W1, .ref W2] 0), (W2, listOf v2.toArray k2), (W1, listOf v1.toArray k1), (NN, listOf vn.toArray kN), (L + 1 + 1 + 1 + 1, ob4), (L + 1 + 1 + 1, ob3), (L + 1 + 1, ob2), (L + 1, oc1), (77, tabObj ps5), (784, tabObj ps3)] := news_sub N10d (by kd_inAll)
  clear N9 N10a N10b N10c N10d F9 kp10 fD7 fE1 fE2 hE1 hE2 hD7 hmade7 hlen7 bE1 bE2 hDb7
  dsimp only
  (repeat' ((fail_if_success (with_reducible show wpAny _ _ (subscriptTail _ _ _ _) _ _ _)); (fail_if_success (with_reducible show wpAny _ _ (compareOp _ (Value.ref _) (Value.ref _)) _ _ _)); (fail_if_success (with_reducible show wpAny _ _ (exec (PySem.Stmt.Assign _ (PySem.Expr.ListComp _ _ _ _) _) _) _ _ _)); (fail_if_success (with_reducible show wpAny _ _ (eval (PySem.Expr.ListComp _ _ _ _) _) _ _ _)); (fail_if_success (with_reducible show wpAny _ _ (call (Value.ref _) _) _ _ _)); (first | (k_unfold; (try dsimp only)) | walk1 | (dsimp only; walk1))))
  (with_reducible rename Fr _ _ _ _ => F11)
  (with_reducible rename News _ _ _ _ => N11)
  (with_reducible rename PySem.Obj.data _ = Data.cell (some (Value.ref D7)) => dc2)
  rename_i h11 oc2
  have okw1 : OkS ww1 := fun x hx => menu_ok x (hm1 x hx)
  have okw2 : OkS ww2 := fun x hx => menu_ok x (hm2 x hx)
  have okd1 : OkS dd1 := fun x hx => (words_small x (hnok.1 x (mem_due (hdd1 ▸ hx)))).2
  have okd2 : OkS dd2 := fun x hx => (words_small x (hnok.1 x (mem_due (hdd2 ▸ hx)))).2
  refine ne_lists ⟨_, (N11 (D3, listOf #[.ref S1, .ref S2] 2) (by k_mem)).1, rfl, _, rfl⟩ ⟨_, (N11 (S1, listOf u1.toArray m1) (by k_mem)).1, rfl, _, rfl⟩ ⟨_, (N11 (S2, listOf u2.toArray m2) (by k_mem)).1, rfl, _, rfl⟩ ⟨_, (N11 (WW, listOf #[.ref W1, .ref W2] 0) (by k_mem)).1, rfl, _, rfl⟩ ⟨_, (N11 (W1, listOf v1.toArray k1) (by k_mem)).1, rfl, _, rfl⟩ ⟨_, (N11 (W2, listOf v2.toArray k2) (by k_mem)).1, rfl, _, rfl⟩ hu1 hu2 hw1 hw2 okw1 okw2 (by show callerA.units + 3 + 64 < cLine; decide) (wpAny_truthy_bool ?_)
  (repeat' ((fail_if_success (with_reducible show wpAny _ _ (subscriptTail _ _ _ _) _ _ _)); (fail_if_success (with_reducible show wpAny _ _ (compareOp _ (Value.ref _) (Value.ref _)) _ _ _)); (fail_if_success (with_reducible show wpAny _ _ (exec (PySem.Stmt.Assign _ (PySem.Expr.ListComp _ _ _ _) _) _) _ _ _)); (fail_if_success (with_reducible show wpAny _ _ (eval (PySem.Expr.ListComp _ _ _ _) _) _ _ _)); (fail_if_success (with_reducible show wpAny _ _ (call (Value.ref _) _) _ _ _)); (first | (k_unfold; (try dsimp only)) | walk1 | (dsimp only; walk1))))
  refine ne_lists ⟨_, (N11 (D5, listOf #[.ref O1, .ref O2] 2) (by k_mem)).1, rfl, _, rfl⟩ ⟨_, (N11 (O1, listOf o1.toArray j1) (by k_mem)).1, rfl, _, rfl⟩ ⟨_, (N11 (O2, listOf o2.toArray j2) (by k_mem)).1, rfl, _, rfl⟩ ⟨_, (N11 (D7, listOf #[.ref E1, .ref E2] 2) (by k_mem)).1, rfl, _, rfl⟩ ⟨_, (N11 (E1, listOf e1.toArray i1) (by k_mem)).1, rfl, _, rfl⟩ ⟨_, (N11 (E2, listOf e2.toArray i2) (by k_mem)).1, rfl, _, rfl⟩ ho1 ho2 he1 he2 okd1 okd2 (by show callerA.units + 3 + 64 < cLine; decide) (wpAny_truthy_bool ?_)
  (repeat' ((fail_if_success (with_reducible show wpAny _ _ (subscriptTail _ _ _ _) _ _ _)); (fail_if_success (with_reducible show wpAny _ _ (compareOp _ (Value.ref _) (Value.ref _)) _ _ _)); (fail_if_success (with_reducible show wpAny _ _ (exec (PySem.Stmt.Assign _ (PySem.Expr.ListComp _ _ _ _) _) _) _ _ _)); (fail_if_success (with_reducible show wpAny _ _ (eval (PySem.Expr.ListComp _ _ _ _) _) _ _ _)); (fail_if_success (with_reducible show wpAny _ _ (call (Value.ref _) _) _ _ _)); (first | (k_unfold; (try dsimp only)) | walk1 | (dsimp only; walk1))))
  have len1 : dd1.length ≤ 1000 := by rw [hdd1]; exact Nat.le_trans (due_len _ _) (Nat.le_trans (Nat.mul_le_mul hl1 hnlen) (by decide))
  have len2 : dd2.length ≤ 1000 := by rw [hdd2]; exact Nat.le_trans (due_len _ _) (Nat.le_trans (Nat.mul_le_mul hl2 hnlen) (by decide))
  refine sub_ref (i := 0) (vs := [.ref O1, .ref O2]) (v := .ref O1) ⟨_, (N11 (D5, listOf #[.ref O1, .ref O2] 2) (by k_mem)).1, rfl, _, rfl⟩ rfl rfl (by decide) ?_
  (repeat' ((fail_if_success (with_reducible show wpAny _ _ (subscriptTail _ _ _ _) _ _ _)); (fail_if_success (with_reducible show wpAny _ _ (compareOp _ (Value.ref _) (Value.ref _)) _ _ _)); (fail_if_success (with_reducible show wpAny _ _ (exec (PySem.Stmt.Assign _ (PySem.Expr.ListComp _ _ _ _) _) _) _ _ _)); (fail_if_success (with_reducible show wpAny _ _ (eval (PySem.Expr.ListComp _ _ _ _) _) _ _ _)); (fail_if_success (with_reducible show wpAny _ _ (call (Value.ref _) _) _ _ _)); (first | (k_unfold; (try dsimp only)) | walk1 | (dsimp only; walk1))))
  refine sub_ref (i := 1) (vs := [.ref O1, .ref O2]) (v := .ref O2) ⟨_, (N11 (D5, listOf #[.ref O1, .ref O2] 2) (by k_mem)).1, rfl, _, rfl⟩ rfl rfl (by decide) ?_
  (repeat' ((fail_if_success (with_reducible show wpAny _ _ (subscriptTail _ _ _ _) _ _ _)); (fail_if_success (with_reducible show wpAny _ _ (compareOp _ (Value.ref _) (Value.ref _)) _ _ _)); (fail_if_success (with_reducible show wpAny _ _ (exec (PySem.Stmt.Assign _ (PySem.Expr.ListComp _ _ _ _) _) _) _ _ _)); (fail_if_success (with_reducible show wpAny _ _ (eval (PySem.Expr.ListComp _ _ _ _) _) _ _ _)); (fail_if_success (with_reducible show wpAny _ _ (call (Value.ref _) _) _ _ _)); (first | (k_unfold; (try dsimp only)) | walk1 | (dsimp only; walk1))))
  refine unord_spec (n1 := j1) (n2 := j2) F11 X1 T1 rfl (by decide) (news_sub N11 (by kd_inAll)) n9c.ne ho1 ho2 len1 len2 fun T2 M2 vM2 nM2 vO2 nO2 h12 tk12 F12 kx12 fT2 fM2 nMT hT2 hM2 hvM2 hO2' hvO2 => ?_
  dsimp only at kx12 fT2 fM2
  have N12a := led_pick N11 kx12 (a := D7) (o1 := listOf #[.ref E1, .ref E2] 2) (by k_mem) (by k_ne) (by k_ne) (led_pick N11 kx12 (a := E1) (o1 := listOf e1.toArray i1) (by k_mem) (by k_ne) (by k_ne) (led_pick N11 kx12 (a := E2) (o1 := listOf e2.toArray i2) (by k_mem) (by k_ne) (by k_ne)
    (led_pick N11 kx12 (a := NN) (o1 := listOf vn.toArray kN) (by k_mem) (by k_ne) (by k_ne) (led_pick N11 kx12 (a := L + 1 + 1 + 1 + 1) (o1 := ob4) (by k_mem) (by k_ne) (by k_ne) (led_pick N11 kx12 (a := L + 1 + 1 + 1) (o1 := ob3) (by k_mem) (by k_ne) (by k_ne)
    (led_pick N11 kx12 (a := L + 1 + 1) (o1 := oc2) (by k_mem) (by k_ne) (by k_ne) (led_pick N11 kx12 (a := L + 1) (o1 := oc1) (by k_mem) (by k_ne) (by k_ne) (led_pick N11 kx12 (a := 77) (o1 := tabObj ps5) (by k_mem) (by k_ne) (by k_ne) (led_pick N11 kx12 (a := 784) (o1 := tabObj ps3) (by k_mem) (by k_ne) (by k_ne) .nil)))))))))
  have N12 : News g L h12 [(T2, { cls := .type "tuple", data := .seq #[.ref M2, .ref O2] }), (M2, listOf vM2.toArray nM2), (O2, listOf vO2.toArray nO2), (D7, listOf #[.ref E1, .ref E2] 2), (E1, listOf e1.toArray i1), (E2, listOf e2.toArray i2), (NN, listOf vn.toArray kN), (L + 1 + 1 + 1 + 1, ob4), (L + 1 + 1 + 1, ob3), (L + 1 + 1, oc2), (L + 1, oc1), (77, tabObj ps5), (784, tabObj ps3)] :=
    news_put hT2 (fresh_put F11 fT2) (news_put hM2 (fresh_put F11 fM2) (news_put hO2' (N11 (O2, listOf o2.toArray j2) (by k_mem)).2 N12a))
  clear N12a N11 F11 kx12 fT2 fM2 hT2 hM2 hO2'
  (repeat' ((fail_if_success (with_reducible show wpAny _ _ (subscriptTail _ _ _ _) _ _ _)); (fail_if_success (with_reducible show wpAny _ _ (compareOp _ (Value.ref _) (Value.ref _)) _ _ _)); (fail_if_success (with_reducible show wpAny _ _ (exec (PySem.Stmt.Assign _ (PySem.Expr.ListComp _ _ _ _) _) _) _ _ _)); (fail_if_success (with_reducible show wpAny _ _ (eval (PySem.Expr.ListComp _ _ _ _) _) _ _ _)); (fail_if_success (with_reducible show wpAny _ _ (call (Value.ref _) _) _ _ _)); (first | (k_unfold; (try dsimp only)) | walk1 | (dsimp only; walk1))))
  refine sub_ref (i := 0) (vs := [.ref E1, .ref E2]) (v := .ref E1) ⟨_, (N12 (D7, listOf #[.ref E1, .ref E2] 2) (by k_mem)).1, rfl, _, rfl⟩ rfl rfl (by decide) ?_
  (repeat' ((fail_if_success (with_reducible show wpAny _ _ (subscriptTail _ _ _ _) _ _ _)); (fail_if_success (with_reducible show wpAny _ _ (compareOp _ (Value.ref _) (Value.ref _)) _ _ _)); (fail_if_success (with_reducible show wpAny _ _ (exec (PySem.Stmt.Assign _ (PySem.Expr.ListComp _ _ _ _) _) _) _ _ _)); (fail_if_success (with_reducible show wpAny _ _ (eval (PySem.Expr.ListComp _ _ _ _) _) _ _ _)); (fail_if_success (with_reducible show wpAny _ _ (call (Value.ref _) _) _ _ _)); (first | (k_unfold; (try dsimp only)) | walk1 | (dsimp only; walk1))))
  refine sub_ref (i := 1) (vs := [.ref E1, .ref E2]) (v := .ref E2) ⟨_, (N12 (D7, listOf #[.ref E1, .ref E2] 2) (by k_mem)).1, rfl, _, rfl⟩ rfl rfl (by decide) ?_
  (repeat' ((fail_if_success (with_reducible show wpAny _ _ (subscriptTail _ _ _ _) _ _ _)); (fail_if_success (with_reducible show wpAny _ _ (compareOp _ (Value.ref _) (Value.ref _)) _ _ _)); (fail_if_success (with_reducible show wpAny _ _ (exec (PySem.Stmt.Assign _ (PySem.Expr.ListComp _ _ _ _) _) _) _ _ _)); (fail_if_success (with_reducible show wpAny _ _ (eval (PySem.Expr.ListComp _ _ _ _) _) _ _ _)); (fail_if_success (with_reducible show wpAny _ _ (call (Value.ref _) _) _ _ _)); (first | (k_unfold; (try dsimp only)) | walk1 | (dsimp only; walk1))))
  refine apart_spec (n1 := i1) (n2 := i2) ?hcx4 n10c.ne he1 he2 len1 len2 fun T3 M3 U3 vM3 nM3 vU3 nU3 h13 tk13 kx13 hE1' hE2' fT3 fM3 fU3 hT3 hM3 hvM3 hU3 hvU3 => ?_
  case hcx4 => exact ⟨_, _, _, _, _, L, _, _, _, [], callerA, g, g, _, _, _, _, rfl, K1, F12, X1, T1, by exact rfl, by decide, by decide, news_sub N12 (by kd_inAll)⟩
  dsimp only at kx13 fT3 fM3 fU3
  have F13 := fr_same2 (o := listOf e1.toArray i1) (o2 := listOf e2.toArray i2) F12 N12 (by k_mem) (by k_mem) kx13
  have N13 := led_same2 (o := listOf e1.toArray i1) (o2 := listOf e2.toArray i2) N12 (by k_mem) (by k_mem) kx13 hE1' hE2'
  refine ne_pairs (x := leftF (fun y => dd2.count y) dd1.reverse) (y := leftF (fun y => dd1.count y) dd2) (N13 (T2, { cls := .type "tuple", data := .seq #[.ref M2, .ref O2] }) (by k_mem)).1 ⟨_, (N13 (M2, listOf vM2.toArray nM2) (by k_mem)).1, rfl, _, rfl⟩ ⟨_, (N13 (O2, listOf vO2.toArray nO2) (by k_mem)).1, rfl, _, rfl⟩ hT3 ⟨_, hM3, rfl, _, rfl⟩ ⟨_, hU3, rfl, _, rfl⟩ hvM2 hvO2 hvM3 hvU3 (okS_left (okS_rev okd1)) (okS_left okd2) (by show callerA.units + 3 + 64 < cLine; decide) (wpAny_truthy_bool ?_)
  have N13a : News g L h13 [(D7, listOf #[.ref E1, .ref E2] 2), (E1, listOf e1.toArray i1), (E2, listOf e2.toArray i2), (NN, listOf vn.toArray kN), (L + 1 + 1 + 1 + 1, ob4), (L + 1 + 1 + 1, ob3), (L + 1 + 1, oc2), (L + 1, oc1), (77, tabObj ps5), (784, tabObj ps3)] := news_sub N13 (by kd_inAll)
  clear F12 N12 N13 kx13 hE1' hE2' fT3 fM3 fU3 hT3 hM3 hvM3 hU3 hvU3 hvM2 hvO2
  (repeat' ((fail_if_success (with_reducible show wpAny _ _ (subscriptTail _ _ _ _) _ _ _)); (fail_if_success (with_reducible show wpAny _ _ (compareOp _ (Value.ref _) (Value.ref _)) _ _ _)); (fail_if_success (with_reducible show wpAny _ _ (exec (PySem.Stmt.Assign _ (PySem.Expr.ListComp _ _ _ _) _) _) _ _ _)); (fail_if_success (with_reducible show wpAny _ _ (eval (PySem.Expr.ListComp _ _ _ _) _) _ _ _)); (fail_if_success (with_reducible show wpAny _ _ (call (Value.ref _) _) _ _ _)); (first | (k_unfold; (try dsimp only)) | walk1 | (dsimp only; walk1))))
  refine wpAny_Assign_Name ?_
  refine' first_K (k := 0) (cD := L + 1 + 1) (DD := D7) (Dk := E1) (vD := [.ref E1, .ref E2]) (vk := e1) (nk := dd1) (nD := 2) (kn := i1) (fun l => l.Pairwise sltP ∧ (∀ x ∈ l, x ∈ names) ∧ l.length ≤ 6) (N13a (L + 1 + 1, oc2) (by k_mem)).1 dc2 (N13a (D7, listOf #[.ref E1, .ref E2] 2) (by k_mem)).1 rfl (N13a (E1, listOf e1.toArray i1) (by k_mem)).1 he1 (by decide) ?fclos ?fcell ?fkind ?fnames ?fx ?fk1 ?fk2 ?fcl ?fsrc ?fhs fun G1 h14 tkh14 gG1 yG1 nsG1 hRG1 kpG1 fG1 hG1 hgG1 => ?_
  case fclos => rfl
  case fcell => decide +kernel
  case fkind => rfl
  case fnames => decide +kernel
  case fx => rfl
  case fk1 => rfl
  case fk2 => rfl
  case fcl => rfl
  case fhs => intro _; rfl
  case fsrc =>
    (repeat' ((fail_if_success (with_reducible show wpAny _ _ (call (Value.builtin _) _) _ _ _)); (first | (k_unfold; (try dsimp only)) | walk1 | (dsimp only; walk1))))
    refine sorted_strs (vs := vn) (ss := names) ⟨_, (N13a (NN, listOf vn.toArray kN) (by k_mem)).1, rfl, _, rfl⟩ hvn (by rw [hvn.length]; omega) fun out ss' hS' hP' hO' => ?_
    obtain ⟨eo, heo⟩ := sortedAll_at h13 vn out
    refine ⟨_, out.toList, ss', _, _, rfl, rfl, fun b o q => sortedAll_old q, Nat.le_of_lt (Nat.lt_of_succ_lt (Heap.lt_size heo)), ?_, hS', ?_, sorted_strict ss' hO' (hP'.nodup_iff.mpr hnok.2.1), fun x hx => hP'.mem_iff.mp hx, by rw [hP'.length_eq]; exact hnlen⟩
    · rw [Array.toArray_toList]; exact ⟨_, heo, rfl, _, rfl⟩
    · rw [hS'.length, hP'.length_eq]; omega
  dsimp only at kpG1 fG1
  have F14 := F13.keeps kpG1
  have p_N14 := led_cons F13 N13a (N13a.grown kpG1) fG1 hG1
  have N14 := p_N14.1
  have q14 := p_N14.2
  clear p_N14
  clear F13 N13a kpG1 fG1 hG1
  (repeat' ((fail_if_success (with_reducible show wpAny _ _ (subscriptTail _ _ _ _) _ _ _)); (fail_if_success (with_reducible show wpAny _ _ (compareOp _ (Value.ref _) (Value.ref _)) _ _ _)); (fail_if_success (with_reducible show wpAny _ _ (exec (PySem.Stmt.Assign _ (PySem.Expr.ListComp _ _ _ _) _) _) _ _ _)); (fail_if_success (with_reducible show wpAny _ _ (eval (PySem.Expr.ListComp _ _ _ _) _) _ _ _)); (fail_if_success (with_reducible show wpAny _ _ (call (Value.ref _) _) _ _ _)); (first | (k_unfold; (try dsimp only)) | walk1 | (dsimp only; walk1))))
  (with_reducible rename Fr _ _ _ _ => F15)
  (with_reducible rename News _ _ _ _ => N15)
  (with_reducible rename PySem.Obj.data _ = Data.cell (some (Value.ref G1)) => dc3)
  rename_i h15 oc3
  refine wpAny_Assign_Name ?_
  refine' first_K (k := 1) (cD := L + 1 + 1) (DD := D7) (Dk := E2) (vD := [.ref E1, .ref E2]) (vk := e2) (nk := dd2) (nD := 2) (kn := i2) (fun l => l.Pairwise sltP ∧ (∀ x ∈ l, x ∈ names) ∧ l.length ≤ 6) (N15 (L + 1 + 1, oc2) (by k_mem)).1 dc2 (N15 (D7, listOf #[.ref E1, .ref E2] 2) (by k_mem)).1 rfl (N15 (E2, listOf e2.toArray i2) (by k_mem)).1 he2 (by decide) ?gclos ?gcell ?gkind ?gnames ?gx ?gk1 ?gk2 ?gcl ?gsrc ?ghs fun G2 h16 tkh16 gG2 yG2 nsG2 hRG2 kpG2 fG2 hG2 hgG2 => ?_
  case gclos => rfl
  case gcell => decide +kernel
  case gkind => rfl
  case gnames => decide +kernel
  case gx => rfl
  case gk1 => rfl
  case gk2 => rfl
  case gcl => rfl
  case ghs => intro _; rfl
  case gsrc =>
    (repeat' ((fail_if_success (with_reducible show wpAny _ _ (call (Value.builtin _) _) _ _ _)); (first | (k_unfold; (try dsimp only)) | walk1 | (dsimp only; walk1))))
    refine sorted_strs (vs := vn) (ss := names) ⟨_, (N15 (NN, listOf vn.toArray kN) (by k_mem)).1, rfl, _, rfl⟩ hvn (by rw [hvn.length]; omega) fun out ss' hS' hP' hO' => ?_
    obtain ⟨eo, heo⟩ := sortedAll_at h15 vn out
    refine ⟨_, out.toList, ss', _, _, rfl, rfl, fun b o q => sortedAll_old q, Nat.le_of_lt (Nat.lt_of_succ_lt (Heap.lt_size heo)), ?_, hS', ?_, sorted_strict ss' hO' (hP'.nodup_iff.mpr hnok.2.1), fun x hx => hP'.mem_iff.mp hx, by rw [hP'.length_eq]; exact hnlen⟩
    · rw [Array.toArray_toList]; exact ⟨_, heo, rfl, _, rfl⟩
    · rw [hS'.length, hP'.length_eq]; omega
  dsimp only at kpG2 fG2
  have F16 := F15.keeps kpG2
  have p_N16 := led_cons F15 N15 (N15.grown kpG2) fG2 hG2
  have N16 := p_N16.1
  have q16 := p_N16.2
  clear p_N16
  clear F15 N15 kpG2 fG2 hG2
  (repeat' ((fail_if_success (with_reducible show wpAny _ _ (subscriptTail _ _ _ _) _ _ _)); (fail_if_success (with_reducible show wpAny _ _ (compareOp _ (Value.ref _) (Value.ref _)) _ _ _)); (fail_if_success (with_reducible show wpAny _ _ (exec (PySem.Stmt.Assign _ (PySem.Expr.ListComp _ _ _ _) _) _) _ _ _)); (fail_if_success (with_reducible show wpAny _ _ (eval (PySem.Expr.ListComp _ _ _ _) _) _ _ _)); (fail_if_success (with_reducible show wpAny _ _ (call (Value.ref _) _) _ _ _)); (first | (k_unfold; (try dsimp only)) | walk1 | (dsimp only; walk1))))
  (with_reducible rename Fr _ _ _ _ => F17)
  (with_reducible rename News _ _ _ _ => N17)
  (with_reducible rename PySem.Obj.data _ = Data.cell (some (Value.ref G2)) => dc4)
  rename_i h17 oc4
  have lenG1 : gG1.length ≤ 1000 := by rw [hgG1.length]; exact Nat.le_trans (List.length_filter_le _ _) (Nat.le_trans hRG1.2.2 (by decide))
  have lenG2 : gG2.length ≤ 1000 := by rw [hgG2.length]; exact Nat.le_trans (List.length_filter_le _ _) (Nat.le_trans hRG2.2.2 (by decide))
  obtain ⟨ff1, hff1⟩ : ∃ l, l = nsG1.filter fun y => decide (y ∈ dd1) := ⟨_, rfl⟩
  obtain ⟨ff2, hff2⟩ : ∃ l, l = nsG2.filter fun y => decide (y ∈ dd2) := ⟨_, rfl⟩
  have sl1 : ff1.Pairwise sltP := hff1 ▸ hRG1.1.filter _
  have sl2 : ff2.Pairwise sltP := hff2 ▸ hRG2.1.filter _
  have okf1 : OkS ff1 := fun x hx => by rw [hff1] at hx; exact (words_small x (hnok.1 x (hRG1.2.1 x (List.mem_filter.mp hx).1))).2
  have okf2 : OkS ff2 := fun x hx => by rw [hff2] at hx; exact (words_small x (hnok.1 x (hRG2.2.1 x (List.mem_filter.mp hx).1))).2
  have lf1 : ff1.length ≤ 1000 := by rw [hff1]; exact Nat.le_trans (List.length_filter_le _ _) (Nat.le_trans hRG1.2.2 (by decide))
  have lf2 : ff2.length ≤ 1000 := by rw [hff2]; exact Nat.le_trans (List.length_filter_le _ _) (Nat.le_trans hRG2.2.2 (by decide))
  rw [← hff1] at hgG1
  rw [← hff2] at hgG2
  refine' alone_K (xo := Str.ofString "second") (l := G1) (vs := gG1) (ns := ff1) (n := yG1) (cO := L + 1 + 1 + 1 + 1) (lO := G2) (vO := gG2) (nO := ff2) (nn := yG2) (N17 (L + 1 + 1 + 1 + 1, oc4) (by k_mem)).1 dc4 (N17 (G2, listOf gG2.toArray yG2) (by k_mem)).1 hgG2 (N17 (G1, listOf gG1.toArray yG1) (by k_mem)).1 hgG1 ?az ?aclos ?acell ?akind ?anames ?ax ?ak1 ?ak2 ?acl (by decide) ?ait ?ahs fun A1 h18 tkh18 gA1 yA1 kpA1 fA1 hA1 hgA1 => ?_
  case az => exact lenG1
  case aclos => rfl
  case acell => decide +kernel
  case akind => rfl
  case anames => decide +kernel
  case ax => rfl
  case ak1 => rfl
  case ak2 => rfl
  case acl => rfl
  case ahs => intro _; rfl
  case ait =>
    walk1
    exact ⟨rfl, rfl⟩
  dsimp only at kpA1 fA1
  have F18 := F17.keeps kpA1
  have p_N18 := led_cons F17 N17 (N17.grown kpA1) fA1 hA1
  have N18 := p_N18.1
  have q18 := p_N18.2
  clear p_N18
  clear F17 N17 kpA1 fA1 hA1
  (repeat' ((fail_if_success (with_reducible show wpAny _ _ (subscriptTail _ _ _ _) _ _ _)); (fail_if_success (with_reducible show wpAny _ _ (compareOp _ (Value.ref _) (Value.ref _)) _ _ _)); (fail_if_success (with_reducible show wpAny _ _ (exec (PySem.Stmt.Assign _ (PySem.Expr.ListComp _ _ _ _) _) _) _ _ _)); (fail_if_success (with_reducible show wpAny _ _ (eval (PySem.Expr.ListComp _ _ _ _) _) _ _ _)); (fail_if_success (with_reducible show wpAny _ _ (call (Value.ref _) _) _ _ _)); (first | (k_unfold; (try dsimp only)) | walk1 | (dsimp only; walk1))))
  refine' alone_K (xo := Str.ofString "first") (l := G2) (vs := gG2) (ns := ff2) (n := yG2) (cO := L + 1 + 1 + 1) (lO := G1) (vO := gG1) (nO := ff1) (nn := yG1) (N18 (L + 1 + 1 + 1, oc3) (by k_mem)).1 dc3 (N18 (G1, listOf gG1.toArray yG1) (by k_mem)).1 hgG1 (N18 (G2, listOf gG2.toArray yG2) (by k_mem)).1 hgG2 ?bz ?bclos ?bcell ?bkind ?bnames ?bx ?bk1 ?bk2 ?bcl (by decide) ?bit ?bhs fun A2 h19 tkh19 gA2 yA2 kpA2 fA2 hA2 hgA2 => ?_
  case bz => exact lenG2
  case bclos => rfl
  case bcell => decide +kernel
  case bkind => rfl
  case bnames => decide +kernel
  case bx => rfl
  case bk1 => rfl
  case bk2 => rfl
  case bcl => rfl
  case bhs => intro _; rfl
  case bit =>
    walk1
    exact ⟨rfl, rfl⟩
  dsimp only at kpA2 fA2
  have F19 := F18.keeps kpA2
  have p_N19 := led_cons F18 N18 (N18.grown kpA2) fA2 hA2
  have N19 := p_N19.1
  have q19 := p_N19.2
  clear p_N19
  clear F18 N18 kpA2 fA2 hA2
  (repeat' ((fail_if_success (with_reducible show wpAny _ _ (subscriptTail _ _ _ _) _ _ _)); (fail_if_success (with_reducible show wpAny _ _ (compareOp _ (Value.ref _) (Value.ref _)) _ _ _)); (fail_if_success (with_reducible show wpAny _ _ (exec (PySem.Stmt.Assign _ (PySem.Expr.ListComp _ _ _ _) _) _) _ _ _)); (fail_if_success (with_reducible show wpAny _ _ (eval (PySem.Expr.ListComp _ _ _ _) _) _ _ _)); (fail_if_success (with_reducible show wpAny _ _ (call (Value.ref _) _) _ _ _)); (first | (k_unfold; (try dsimp only)) | walk1 | (dsimp only; walk1))))
  (with_reducible rename Fr _ _ _ _ => F20)
  (with_reducible rename News _ _ _ _ => N20)
  rename_i TT h19b l19 h20
  refine sdiff_spec (n1 := yG1) (n2 := yG2) F20 X1 T1 rfl (by decide) (news_sub N20 (by kd_inAll)) (by k_ne) hgG1 hgG2 lf1 lf2 sl1 sl2 fun T5 M5 U5 vM5 nM5 vU5 nU5 h21 tk21 F21 kx21 fT5 fM5 fU5 n5 hT5 hM5 hvM5 hU5 hvU5 => ?_
  dsimp only at kx21
  have N21 := led_pick N20 kx21 (a := TT) (o1 := { cls := .type "tuple", data := .seq #[.ref A1, .ref A2] }) (by k_mem) (by k_ne) (by k_ne) (led_pick N20 kx21 (a := A1) (o1 := listOf gA1.toArray yA1) (by k_mem) (by k_ne) (by k_ne) (led_pick N20 kx21 (a := A2) (o1 := listOf gA2.toArray yA2) (by k_mem) (by k_ne) (by k_ne)
    (led_pick N20 kx21 (a := 77) (o1 := tabObj ps5) (by k_mem) (by k_ne) (by k_ne) (led_pick N20 kx21 (a := 784) (o1 := tabObj ps3) (by k_mem) (by k_ne) (by k_ne) .nil))))
  clear N20 F20 kx21
  (repeat' ((fail_if_success (with_reducible show wpAny _ _ (subscriptTail _ _ _ _) _ _ _)); (fail_if_success (with_reducible show wpAny _ _ (compareOp _ (Value.ref _) (Value.ref _)) _ _ _)); (fail_if_success (with_reducible show wpAny _ _ (exec (PySem.Stmt.Assign _ (PySem.Expr.ListComp _ _ _ _) _) _) _ _ _)); (fail_if_success (with_reducible show wpAny _ _ (eval (PySem.Expr.ListComp _ _ _ _) _) _ _ _)); (fail_if_success (with_reducible show wpAny _ _ (call (Value.ref _) _) _ _ _)); (first | (k_unfold; (try dsimp only)) | walk1 | (dsimp only; walk1))))
  refine eq_pairs (x := outF ff1 ff2) (y := outF ff2 ff1) hT5 ⟨_, hM5, rfl, _, rfl⟩ ⟨_, hU5, rfl, _, rfl⟩ (N21 (TT, { cls := .type "tuple", data := .seq #[.ref A1, .ref A2] }) (by k_mem)).1 ⟨_, (N21 (A1, listOf gA1.toArray yA1) (by k_mem)).1, rfl, _, rfl⟩ ⟨_, (N21 (A2, listOf gA2.toArray yA2) (by k_mem)).1, rfl, _, rfl⟩ hvM5 hvU5 hgA1 hgA2 (fun x hx => okf1 x (List.mem_filter.mp hx).1) (fun x hx => okf2 x (List.mem_filter.mp hx).1) (by show callerA.units + 3 + 64 < cLine; decide) ?_
  exact ⟨rfl, F21.keep, o3, b3, ⟨_, (N21 (77, tabObj ps5) (by k_mem)).1⟩, ⟨_, (N21 (784, tabObj ps3) (by k_mem)).1⟩, trivial⟩
end
end Mine
theorem PySem.Challenge.cw_ij0188_01_holds : PySem.Challenge.rw_ij0188_01.Holds :=
  Mine.law_t
